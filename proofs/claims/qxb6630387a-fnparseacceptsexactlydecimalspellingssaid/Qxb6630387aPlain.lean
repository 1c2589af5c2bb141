/-
  THE PLAIN LAW of seat b6630387a: decimal spellings. No Go in sight.
-/
namespace Go.Proofs.Qxb6630387a.Plain

/-! ### The spelling -/
def decF : Nat → Nat → List Int
  | 0, _ => []
  | f + 1, u => if u < 10 then [48 + (u : Int)] else decF f (u / 10) ++ [48 + ((u % 10 : Nat) : Int)]

theorem decF_fuel (f : Nat) : ∀ g u, u < f → u < g → decF f u = decF g u := by
  induction f with
  | zero => intro g u h; omega
  | succ f ih =>
    intro g u hf hg
    cases g with
    | zero => omega
    | succ g =>
      by_cases h : u < 10
      · simp [decF, h]
      · simp only [decF, h, if_false]
        rw [ih g (u / 10) (by omega) (by omega)]

/-- The digits of u. -/
def dec (u : Nat) : List Int := decF (u + 1) u

theorem dec_small {u : Nat} (h : u < 10) : dec u = [48 + (u : Int)] := by simp [dec, decF, h]
theorem dec_big {u : Nat} (h : 10 ≤ u) : dec u = dec (u / 10) ++ [48 + ((u % 10 : Nat) : Int)] := by
  have h' : ¬ u < 10 := by omega
  simp only [dec, decF, h', if_false]
  rw [decF_fuel u (u / 10 + 1) (u / 10) (by omega) (by omega)]
  rfl

/-- Strong induction along the digits. -/
theorem dec_rec {p : Nat → Prop} (h1 : ∀ u, u < 10 → p u) (h2 : ∀ u, 10 ≤ u → p (u / 10) → p u) (u : Nat) : p u := by
  induction u using Nat.strongRecOn with
  | _ u ih =>
    by_cases h : u < 10
    · exact h1 u h
    · exact h2 u (by omega) (ih (u / 10) (by omega))

theorem dec_pos (u : Nat) : 0 < (dec u).length := by
  by_cases h : u < 10
  · simp [dec_small h]
  · simp [dec_big (show 10 ≤ u by omega)]

theorem dec_digits (u : Nat) : ∀ c ∈ dec u, 48 ≤ c ∧ c ≤ 57 := by
  refine dec_rec (p := fun u => ∀ c ∈ dec u, 48 ≤ c ∧ c ≤ 57) ?_ ?_ u
  · intro u h c hc
    rw [dec_small h] at hc
    simp at hc
    omega
  · intro u h ih c hc
    rw [dec_big h] at hc
    simp at hc
    rcases hc with hc | hc
    · exact ih c hc
    · omega

theorem dec_len (f : Nat) : ∀ u, u < 10 ^ (f + 1) → (dec u).length ≤ f + 1 := by
  induction f with
  | zero => intro u h; simp [dec_small (show u < 10 by simpa using h)]
  | succ f ih =>
    intro u h
    by_cases h1 : u < 10
    · simp [dec_small h1]
    · rw [dec_big (by omega)]
      have := ih (u / 10) (by rw [Nat.div_lt_iff_lt_mul (by omega)]; rw [Nat.pow_succ] at h; exact h)
      simp
      omega

theorem dec_head (u : Nat) (h : 0 < u) : ∃ c r, dec u = c :: r ∧ 49 ≤ c := by
  revert h
  refine dec_rec (p := fun u => 0 < u → ∃ c r, dec u = c :: r ∧ 49 ≤ c) ?_ ?_ u
  · intro u h h0
    exact ⟨_, _, dec_small h, by omega⟩
  · intro u h ih h0
    obtain ⟨c, r, e, hc⟩ := ih (by omega)
    exact ⟨c, r ++ _, by rw [dec_big h, e]; rfl, hc⟩

/-- What a row of digits is worth. -/
def val (l : List Int) : Int := l.foldl (fun n c => n * 10 + (c - 48)) 0
theorem val_snoc (l : List Int) (c : Int) : val (l ++ [c]) = val l * 10 + (c - 48) := by simp [val]
theorem val_nil : val [] = 0 := rfl

theorem val_dec (u : Nat) : val (dec u) = u := by
  refine dec_rec (p := fun u => val (dec u) = u) ?_ ?_ u
  · intro u h; rw [dec_small h]; simp [val]; omega
  · intro u h ih
    rw [dec_big h, val_snoc, ih]
    omega

/-- Induction from the end of a list. -/
theorem snoc_rec {p : List Int → Prop} (h0 : p []) (h1 : ∀ l c, p l → p (l ++ [c])) (l : List Int) : p l := by
  rw [← List.reverse_reverse l]
  generalize l.reverse = r
  induction r with
  | nil => exact h0
  | cons a r ih => rw [List.reverse_cons]; exact h1 _ _ ih

theorem val_nonneg (l : List Int) (h : ∀ c ∈ l, 48 ≤ c ∧ c ≤ 57) : 0 ≤ val l := by
  revert h
  refine snoc_rec (p := fun l => (∀ c ∈ l, 48 ≤ c ∧ c ≤ 57) → 0 ≤ val l) ?_ ?_ l
  · intro _; simp [val]
  · intro l c ih h
    rw [val_snoc]
    have := ih (fun x hx => h x (by simp [hx]))
    have := h c (by simp)
    omega

/-- A row of digits without a leading nought is the spelling of what it is worth. -/
theorem canon (l : List Int) (h : ∀ c ∈ l, 48 ≤ c ∧ c ≤ 57) (hne : l ≠ []) (h0 : ∀ r, l ≠ 48 :: r ∨ r = []) : l = dec (val l).toNat ∧ (l ≠ [48] → 1 ≤ val l) := by
  revert h hne h0
  refine snoc_rec (p := fun l => (∀ c ∈ l, 48 ≤ c ∧ c ≤ 57) → l ≠ [] → (∀ r, l ≠ 48 :: r ∨ r = []) → l = dec (val l).toNat ∧ (l ≠ [48] → 1 ≤ val l)) ?_ ?_ l
  · intro _ h; exact absurd rfl h
  · intro l c ih h _ h0
    have hc := h c (by simp)
    cases l with
    | nil =>
      have e : val ([] ++ [c]) = c - 48 := by simp [val]
      rw [e, dec_small (by omega)]
      constructor
      · simp; omega
      · intro hx; simp at hx; omega
    | cons a r =>
      have h' : ∀ x ∈ a :: r, 48 ≤ x ∧ x ≤ 57 := fun x hx => h x (by simp at hx ⊢; rcases hx with hx | hx <;> simp [hx])
      have ha : a ≠ 48 := by
        rintro rfl
        rcases h0 (r ++ [c]) with hx | hx
        · exact hx rfl
        · simp at hx
      obtain ⟨i1, i2⟩ := ih h' (by simp) (fun r' => by left; intro hx; injection hx with hx _; exact ha hx)
      have hv := i2 (by intro hx; injection hx with hx _; exact ha hx)
      rw [val_snoc]
      refine ⟨?_, fun _ => by omega⟩
      rw [dec_big (by omega), show (val (a :: r) * 10 + (c - 48)).toNat / 10 = (val (a :: r)).toNat from by omega, ← i1]
      congr 2
      omega

/-- The canonical spelling of an integer. -/
def spellL (v : Int) : List Int := if v < 0 then 45 :: dec v.natAbs else dec v.natAbs

/-! ### Reading -/
def run : List Int → Nat → Option Nat
  | [], n => some n
  | c :: r, n => if 48 ≤ c ∧ c ≤ 57 ∧ n ≤ 922337203685477580 then run r (n * 10 + (c - 48).toNat) else none

theorem run_append (a b : List Int) (n : Nat) : run (a ++ b) n = (run a n).bind (run b) := by
  induction a generalizing n with
  | nil => rfl
  | cons c r ih =>
    simp only [List.cons_append, run]
    split
    · exact ih _
    · rfl

theorem run_val (l : List Int) : ∀ n, run l 0 = some n → (∀ c ∈ l, 48 ≤ c ∧ c ≤ 57) ∧ val l = n := by
  refine snoc_rec (p := fun l => ∀ n, run l 0 = some n → (∀ c ∈ l, 48 ≤ c ∧ c ≤ 57) ∧ val l = n) ?_ ?_ l
  · intro n h; simp [run] at h; subst h; simp [val]
  · intro l c ih n h
    rw [run_append] at h
    cases e : run l 0 with
    | none => rw [e] at h; simp at h
    | some m =>
      rw [e] at h
      obtain ⟨i1, i2⟩ := ih m e
      simp only [Option.bind_some, run] at h
      split at h
      · rename_i hc
        simp at h
        refine ⟨fun x hx => ?_, ?_⟩
        · simp at hx
          rcases hx with hx | hx
          · exact i1 x hx
          · subst hx; omega
        · rw [val_snoc, i2]; omega
      · cases h

theorem run_bound (l : List Int) (n : Nat) (h : run l 0 = some n) : n ≤ 9223372036854775809 := by
  revert n
  refine snoc_rec (p := fun l => ∀ n, run l 0 = some n → n ≤ 9223372036854775809) ?_ ?_ l
  · intro n h; simp [run] at h; omega
  · intro l c ih n h
    rw [run_append] at h
    cases e : run l 0 with
    | none => rw [e] at h; simp at h
    | some m =>
      rw [e] at h
      simp only [Option.bind_some, run] at h
      split at h
      · simp at h; omega
      · cases h

theorem run_dec (u : Nat) (h : u ≤ 9223372036854775809) : run (dec u) 0 = some u := by
  revert h
  refine dec_rec (p := fun u => u ≤ 9223372036854775809 → run (dec u) 0 = some u) ?_ ?_ u
  · intro u h _
    rw [dec_small h]
    simp [run]
    omega
  · intro u h ih hu
    rw [dec_big h, run_append, ih (by omega)]
    simp only [Option.bind_some, run]
    rw [if_pos (by omega)]
    congr 1
    omega

theorem run_bad (l : List Int) (c : Int) (r : List Int) (n : Nat) (h : c < 48 ∨ 57 < c) : run (l ++ c :: r) n = none := by
  rw [run_append]
  cases run l n with
  | none => rfl
  | some m => simp only [Option.bind_some, run]; rw [if_neg (by omega)]

/-- What is read of the digits behind the sign. -/
def fin (neg : Bool) (d : List Int) : Option Int :=
  match run d 0 with
  | none => none
  | some n => if neg then (if n ≤ 9223372036854775808 then some (-(n : Int)) else none) else (if n < 9223372036854775808 then some (n : Int) else none)

/-- 'Parse', as the text has it. -/
def parse (l : List Int) : Option Int :=
  match l with
  | [] => none
  | c :: r =>
    if c = 45 then (match r with | [] => none | e :: _ => if e = 48 then none else fin true r)
    else (match r with | [] => fin false l | _ :: _ => if c = 48 then none else fin false l)

def InRange (v : Int) : Prop := -9223372036854775808 ≤ v ∧ v ≤ 9223372036854775807

theorem parse_spell (v : Int) (h : InRange v) : parse (spellL v) = some v := by
  unfold InRange at h
  unfold spellL
  split
  · rename_i hv
    obtain ⟨c, r, e, hc⟩ := dec_head v.natAbs (by omega)
    have hf : fin true (dec v.natAbs) = some v := by
      simp only [fin, run_dec v.natAbs (by omega)]
      simp
      omega
    rw [e] at hf ⊢
    simp only [parse, if_true]
    rw [if_neg (by omega)]
    exact hf
  · rename_i hv
    have hf : fin false (dec v.natAbs) = some v := by
      simp only [fin, run_dec v.natAbs (by omega)]
      simp
      omega
    by_cases h10 : v.natAbs < 10
    · rw [dec_small h10] at hf ⊢
      simp only [parse]
      rw [if_neg (by omega)]
      exact hf
    · obtain ⟨c, r, e, hc⟩ := dec_head v.natAbs (by omega)
      rw [e] at hf ⊢
      cases r with
      | nil => simp only [parse]; rw [if_neg (by omega)]; exact hf
      | cons a r => simp only [parse]; rw [if_neg (by omega), if_neg (by omega)]; exact hf

theorem fin_some {neg : Bool} {d : List Int} {v : Int} (h : fin neg d = some v) : (∀ c ∈ d, 48 ≤ c ∧ c ≤ 57) ∧ InRange v ∧ val d = v.natAbs ∧ (neg = true → v ≤ 0) ∧ (neg = false → 0 ≤ v) := by
  unfold fin at h
  unfold InRange
  cases e : run d 0 with
  | none => rw [e] at h; cases h
  | some n =>
    rw [e] at h
    obtain ⟨h1, h2⟩ := run_val d n e
    cases neg
    · simp at h
      obtain ⟨h3, rfl⟩ := h
      exact ⟨h1, by omega, by omega, by simp, by omega⟩
    · simp at h
      obtain ⟨h3, rfl⟩ := h
      exact ⟨h1, by omega, by omega, by omega, by simp⟩

theorem parse_some {l : List Int} {v : Int} (h : parse l = some v) : InRange v ∧ l = spellL v := by
  cases l with
  | nil => simp [parse] at h
  | cons c r =>
    simp only [parse] at h
    by_cases hc : c = 45
    · rw [if_pos hc] at h
      cases r with
      | nil => simp at h
      | cons e r =>
        simp only at h
        by_cases he : e = 48
        · rw [if_pos he] at h; cases h
        · rw [if_neg he] at h
          obtain ⟨h1, h2, h3, h4, _⟩ := fin_some h
          obtain ⟨i1, i2⟩ := canon (e :: r) h1 (by simp) (fun r' => by left; intro hx; injection hx with hx _; exact he hx)
          have hv := i2 (by intro hx; injection hx with hx _; exact he hx)
          have h5 := h4 rfl
          refine ⟨h2, ?_⟩
          rw [spellL, if_pos (by omega), hc, i1, h3]
          rfl
    · rw [if_neg hc] at h
      have key : fin false (c :: r) = some v → (∀ r', c :: r ≠ 48 :: r' ∨ r' = []) → InRange v ∧ c :: r = spellL v := by
        intro h h0
        obtain ⟨h1, h2, h3, _, h4⟩ := fin_some h
        obtain ⟨i1, _⟩ := canon (c :: r) h1 (by simp) h0
        have h5 := h4 rfl
        refine ⟨h2, ?_⟩
        rw [spellL, if_neg (by omega)]
        rw [h3] at i1
        exact i1
      cases r with
      | nil => exact key h (fun r' => by by_cases hr : r' = []; exact .inr hr; left; intro hx; injection hx with _ hx; exact hr hx.symm)
      | cons e r =>
        simp only at h
        by_cases h8 : c = 48
        · rw [if_pos h8] at h; cases h
        · rw [if_neg h8] at h
          exact key h (fun r' => by left; intro hx; injection hx with hx _; exact h8 hx)

/-! ### The five readings of the second law -/
theorem spell_neg {v : Int} (h : v < 0) : spellL v = 45 :: dec v.natAbs := if_pos h
theorem spell_pos {v : Int} (h : ¬ v < 0) : spellL v = dec v.natAbs := if_neg h

theorem parse_zero_neg {v : Int} : parse (45 :: 48 :: dec v.natAbs) = none := by simp [parse]
theorem parse_zero_pos {v : Int} : parse (48 :: dec v.natAbs) = none := by
  have := dec_pos v.natAbs
  cases e : dec v.natAbs with
  | nil => rw [e] at this; simp at this
  | cons a r => simp [parse]

theorem fin_bad (neg : Bool) (l : List Int) (c : Int) (r : List Int) (h : c < 48 ∨ 57 < c) : fin neg (l ++ c :: r) = none := by
  simp [fin, run_bad l c r 0 h]

theorem parse_plus (s : List Int) : parse (43 :: s) = none := by
  have h := fin_bad false [] 43 s (by omega)
  simp only [List.nil_append] at h
  cases s with
  | nil => simp only [parse]; rw [if_neg (by omega)]; exact h
  | cons a r => simp only [parse]; rw [if_neg (by omega), if_neg (by omega)]; exact h

theorem parse_minus_pos {v : Int} (h : 0 < v) (hr : InRange v) : parse (45 :: spellL v) = some (-v) := by
  have e : 45 :: spellL v = spellL (-v) := by
    rw [spell_pos (show ¬ v < 0 by omega), spell_neg (show -v < 0 by omega), Int.natAbs_neg]
  rw [e]
  unfold InRange at hr
  exact parse_spell _ ⟨by omega, by omega⟩

theorem parse_minus_not {v : Int} (h : ¬ 0 < v) : parse (45 :: spellL v) = none := by
  by_cases h0 : v < 0
  · rw [spell_neg h0]
    have hb := fin_bad true [] 45 (dec v.natAbs) (by omega)
    simp only [List.nil_append] at hb
    simp only [parse, if_true]
    rw [if_neg (by omega)]
    exact hb
  · obtain rfl : v = 0 := by omega
    rw [spell_pos (by omega)]
    simp [dec_small, parse]

theorem parse_space (s : List Int) : parse (s ++ [32]) = none := by
  have hb := fun neg l => fin_bad neg l 32 [] (by omega)
  cases s with
  | nil => simp only [List.nil_append, parse]; rw [if_neg (by omega)]; exact hb false []
  | cons c r =>
    have h1 := hb false (c :: r)
    have h2 := hb true r
    simp only [List.cons_append, parse] at h1 ⊢
    by_cases hc : c = 45
    · rw [if_pos hc]
      cases r with
      | nil => simp only [List.nil_append] at h2 ⊢; rw [if_neg (by omega)]; exact h2
      | cons e r =>
        simp only [List.cons_append] at h2 ⊢
        by_cases he : e = 48
        · rw [if_pos he]
        · rw [if_neg he]; exact h2
    · rw [if_neg hc]
      cases r with
      | nil =>
        simp only [List.nil_append] at h1 ⊢
        by_cases h8 : c = 48
        · rw [if_pos h8]
        · rw [if_neg h8]; exact h1
      | cons e r =>
        simp only [List.cons_append] at h1 ⊢
        by_cases h8 : c = 48
        · rw [if_pos h8]
        · rw [if_neg h8]; exact h1

end Go.Proofs.Qxb6630387a.Plain
