import Derived.Test.Qxb6630343aFmtFacts
import Derived.Below
namespace Go.Proofs.Qxb6630343aFmt
open Go.RowKit Go.Extern.Stop Go.Stop Go.Extern

attribute [local go_sem] Tryf.call10 Tryf.guard Tryf.fmt0 Tryf.fmt0r Tryf.op3_100 Tryf.op3_100w Tryf.ptr28 Tryf.elem28 Tryf.isError28' Tryf.ptr32 Tryf.elem32

/-- It is an error that is not nil. -/
def IsErr (e : Ending) : Prop := ∃ a, e = .returned (.iface 28 (.pointer (some a)))
theorem isErr (a : Addr) : IsErr (.returned (.iface 28 (.pointer (some a)))) := ⟨a, rfl⟩

set_option maxHeartbeats 400000 in
theorem c6_empty (w : World) : Calls Tryf.prog 6 #[.string ⟨#[]⟩] w fun e w' => IsErr e ∧ Below w.heap.size w w' := by
  go_enter Tryf.func6, Tryf.ntmps6
  go_wp2
  go_ret
  exact ⟨isErr _, (Below.refl _ _).alloc (Nat.le_refl _) _⟩

set_option maxHeartbeats 400000 in
theorem c6_bad (p : ByteArray) (w : World) (h0 : 0 < p.size) (hp : p.toList.isEmpty = false) (hb : ((p[0].toNat : Int) == 64) = true ∨ ((p[0].toNat : Int) == 64) = false ∧ ((p[0].toNat : Int) == 0) = true) : Calls Tryf.prog 6 #[.string p] w fun e w' => IsErr e ∧ Below w.heap.size w w' := by
  rcases hb with h | ⟨h, h'⟩
  all_goals
    go_enter Tryf.func6, Tryf.ntmps6
    go_wp2
    go_ret
    exact ⟨isErr _, (Below.refl _ _).alloc (Nat.le_refl _) _⟩

set_option maxHeartbeats 400000 in
theorem c6_ok (p : ByteArray) (w : World) (h0 : 0 < p.size) (hp : p.toList.isEmpty = false) (h1 : ((p[0].toNat : Int) == 64) = false) (h2 : ((p[0].toNat : Int) == 0) = false) (hs : p.size ≤ 107) : Calls Tryf.prog 6 #[.string p] w fun e w' => e = .returned .nilIface ∧ w' = w := by
  go_enter Tryf.func6, Tryf.ntmps6
  go_wp2
  go_ret
  exact ⟨rfl, rfl⟩

set_option maxHeartbeats 400000 in
theorem c6_long (F : Interp) (p : ByteArray) (w : World) (hF : F.answers w.tape) (h0 : 0 < p.size) (hp : p.toList.isEmpty = false) (h1 : ((p[0].toNat : Int) == 64) = false) (h2 : ((p[0].toNat : Int) == 0) = false) (hs : 107 < p.size) (hm : p.size ≤ 2000000) :
    Calls Tryf.prog 6 #[.string p] w fun e w' => IsErr e ∧ Below w.heap.size w w' := by
  have hF' := answers_open hF
  go_enter Tryf.func6, Tryf.ntmps6
  go_wp2
  go_ret
  exact ⟨isErr _, (((Below.refl _ _).alloc (Nat.le_refl _) _).alloc (by simp) _).drew⟩

/-- Which paths 'CheckControlSocket' takes. -/
def okP (p : ByteArray) : Bool := if h : 0 < p.size then (p[0].toNat != 64 && p[0].toNat != 0) && decide (p.size ≤ 107) else false

/-- nil where the path is taken; else an error. -/
def Chk (p : ByteArray) (e : Ending) : Prop := (okP p = true ∧ e = .returned .nilIface) ∨ (okP p = false ∧ IsErr e)

theorem empty_of (p : ByteArray) (h : ¬ 0 < p.size) : p = ⟨#[]⟩ := by
  obtain ⟨⟨x⟩⟩ := p
  simp [ByteArray.size] at h
  subst h
  rfl

theorem notEmpty_of (p : ByteArray) (h : 0 < p.size) : p.toList.isEmpty = false := by
  rw [ByteArray.toList_eq]
  obtain ⟨⟨x⟩⟩ := p
  simp [ByteArray.size] at h ⊢
  cases x with
  | nil => simp at h
  | cons a r => simp

theorem c6_any (F : Interp) (p : ByteArray) (w : World) (hF : F.answers w.tape) (hm : p.size ≤ 2000000) : Calls Tryf.prog 6 #[.string p] w fun e w' => Chk p e ∧ Below w.heap.size w w' := by
  by_cases h0 : 0 < p.size
  · have hp := notEmpty_of p h0
    by_cases h1 : p[0].toNat = 64
    · refine (c6_bad p w h0 hp (.inl (by simp [h1]))).mono ?_
      rintro e w' ⟨he, hB⟩
      exact ⟨.inr ⟨by simp [okP, h0, h1], he⟩, hB⟩
    have h1' : ((p[0].toNat : Int) == 64) = false := by rw [beq_eq_false_iff_ne]; omega
    by_cases h2 : p[0].toNat = 0
    · refine (c6_bad p w h0 hp (.inr ⟨h1', by simp [h2]⟩)).mono ?_
      rintro e w' ⟨he, hB⟩
      exact ⟨.inr ⟨by simp [okP, h0, h2], he⟩, hB⟩
    have h2' : ((p[0].toNat : Int) == 0) = false := by rw [beq_eq_false_iff_ne]; omega
    by_cases hs : p.size ≤ 107
    · refine (c6_ok p w h0 hp h1' h2' hs).mono ?_
      rintro e w' ⟨rfl, rfl⟩
      exact ⟨.inl ⟨by simp [okP, h0, h1, h2, hs], rfl⟩, Below.refl _ _⟩
    · refine (c6_long F p w hF h0 hp h1' h2' (by omega) hm).mono ?_
      rintro e w' ⟨he, hB⟩
      exact ⟨.inr ⟨by simp [okP, hs], he⟩, hB⟩
  · obtain rfl := empty_of p h0
    refine (c6_empty w).mono ?_
    rintro e w' ⟨he, hB⟩
    exact ⟨.inr ⟨by decide, he⟩, hB⟩

theorem z5 (p : ByteArray) (w : World) (h : p.size ≤ 1048576) : Calls Tryf.prog 5 #[.string p] w fun e w' => e = .returned (.bool true) ∧ w' = w := by
  go_enter Tryf.func5, Tryf.ntmps5
  go_wp2
  go_ret
  exact ⟨rfl, rfl⟩
theorem z5_not (p : ByteArray) (w : World) (h : ¬ p.size ≤ 1048576) : Calls Tryf.prog 5 #[.string p] w fun e w' => e = .returned (.bool false) ∧ w' = w := by
  go_enter Tryf.func5, Tryf.ntmps5
  go_wp2
  go_ret
  exact ⟨rfl, rfl⟩

theorem chk_yes {p : ByteArray} {e : Ending} (h : Chk p e) (hp : okP p = true) : e = .returned .nilIface := by
  rcases h with h | h
  · exact h.2
  · exact absurd (hp.symm.trans h.1) (by decide)
theorem chk_no {p : ByteArray} {e : Ending} (h : Chk p e) (hp : okP p = false) : ∃ a, e = .returned (.iface 28 (.pointer (some a))) := by
  rcases h with h | h
  · exact absurd (h.1.symm.trans hp) (by decide)
  · exact h.2

/-- The ways in which a path can lie. -/
theorem ways (p : ByteArray) : (p = ⟨#[]⟩ ∧ okP p = false) ∨
    (∃ h : 0 < p.size, p.toList.isEmpty = false ∧ ((p[0].toNat : Int) == 64) = true ∧ okP p = false) ∨
    (∃ h : 0 < p.size, p.toList.isEmpty = false ∧ ((p[0].toNat : Int) == 64) = false ∧ ((p[0].toNat : Int) == 0) = true ∧ okP p = false) ∨
    (∃ h : 0 < p.size, p.toList.isEmpty = false ∧ ((p[0].toNat : Int) == 64) = false ∧ ((p[0].toNat : Int) == 0) = false ∧ p.size ≤ 107 ∧ okP p = true) ∨
    (∃ h : 0 < p.size, p.toList.isEmpty = false ∧ ((p[0].toNat : Int) == 64) = false ∧ ((p[0].toNat : Int) == 0) = false ∧ 107 < p.size ∧ okP p = false) := by
  by_cases h0 : 0 < p.size
  · right
    have hp := notEmpty_of p h0
    by_cases h1 : p[0].toNat = 64
    · exact .inl ⟨h0, hp, by simp [h1], by simp [okP, h0, h1]⟩
    have h1' : ((p[0].toNat : Int) == 64) = false := by rw [beq_eq_false_iff_ne]; omega
    right
    by_cases h2 : p[0].toNat = 0
    · exact .inl ⟨h0, hp, h1', by simp [h2], by simp [okP, h0, h2]⟩
    have h2' : ((p[0].toNat : Int) == 0) = false := by rw [beq_eq_false_iff_ne]; omega
    right
    by_cases hs : p.size ≤ 107
    · exact .inl ⟨h0, hp, h1', h2', hs, by simp [okP, h0, h1, h2, hs]⟩
    · exact .inr ⟨h0, hp, h1', h2', by omega, by simp [okP, hs]⟩
  · exact .inl ⟨empty_of p h0, by rw [empty_of p h0]; decide⟩

theorem okP_dot (p : ByteArray) : okP (⟨#[46, 47]⟩ ++ p) = decide (p.size ≤ 105) := by
  have hz : (⟨#[46, 47]⟩ ++ p : ByteArray).size = 2 + p.size := by rw [ByteArray.size_append]; rfl
  have h0 : 0 < (⟨#[46, 47]⟩ ++ p : ByteArray).size := by omega
  have hf : (⟨#[46, 47]⟩ ++ p : ByteArray)[0] = 46 := by
    rw [ByteArray.getElem_append_left (by decide)]
    rfl
  unfold okP
  rw [dif_pos h0, hf, hz]
  simp
  omega

set_option maxHeartbeats 1000000 in
theorem f3_over (F : Interp) (p : ByteArray) (w : World) (hF : F.answers w.tape) (hs : p.size ≤ 1048576) (hx : 105 < p.size) : Calls Tryf.prog 3 #[.string p] w fun e w' => e = .returned (.bool true) ∧ Below w.heap.size w w' := by
      have hr : okP (⟨#[46, 47]⟩ ++ p) = false := by rw [okP_dot p]; simp; omega
      have hd5 : decide ((p.size : Int) ≤ 105) = false := by simp; omega
      rcases ways p with ⟨rfl, hq⟩ | ⟨h0, he, h1, hq⟩ | ⟨h0, he, h1, h2, hq⟩ | ⟨h0, he, h1, h2, h3, hq⟩ | ⟨h0, he, h1, h2, h3, hq⟩
      · exact absurd hx (by decide)
      all_goals
        have HR : Hid _ := hr
        have HQ : Hid _ := hq
        clear hr hq
        go_enter Tryf.func3, Tryf.ntmps3
        go_wp2_with fail
        refine (z5 p w hs).mono ?_
        rintro e w' ⟨rfl, rfl⟩
        go_wp2_with fail
        refine (c6_any F _ w' hF ?_).mono ?_
        · rw [ByteArray.size_append]; have : (⟨#[46, 47]⟩ : ByteArray).size = 2 := rfl; omega
        rintro e w1 ⟨hc, hB1⟩
        obtain ⟨a, rfl⟩ := chk_no hc HR.out
        have hF1 : F.answers w1.tape := by rw [hB1.tape]; exact hF
        go_wp2_with fail
        refine (c6_any F _ w1 hF1 (by omega)).mono ?_
        rintro e w2 ⟨hc2, hB2⟩
        have hBB := hB1.trans (hB2.mono hB1.size)
        rcases hc2 with ⟨ho, rfl⟩ | ⟨ho, a2, rfl⟩ <;> rw [HQ.out] at ho <;> cases ho
        go_wp2_with fail
        go_ret
        exact ⟨rfl, hBB⟩

set_option maxHeartbeats 1000000 in
theorem f3_empty (F : Interp) (w : World) (hF : F.answers w.tape) : Calls Tryf.prog 3 #[.string ⟨#[]⟩] w fun e w' => e = .returned (.bool true) ∧ Below w.heap.size w w' := by
  go_enter Tryf.func3, Tryf.ntmps3
  go_wp2_with fail
  refine (z5 ⟨#[]⟩ w (by decide)).mono ?_
  rintro e w' ⟨rfl, rfl⟩
  go_wp2_with fail
  refine (c6_any F _ w' hF ?_).mono ?_
  · rw [ByteArray.size_append]; decide
  rintro e w1 ⟨hc, hB1⟩
  obtain rfl := chk_yes hc (by rw [okP_dot]; decide)
  have hF1 : F.answers w1.tape := by rw [hB1.tape]; exact hF
  go_wp2_with fail
  refine (c6_any F _ w1 hF1 (by decide)).mono ?_
  rintro e w2 ⟨hc2, hB2⟩
  have hBB := hB1.trans (hB2.mono hB1.size)
  obtain ⟨a2, rfl⟩ := chk_no hc2 (by decide)
  go_wp2_with fail
  go_ret
  exact ⟨rfl, hBB⟩

set_option maxHeartbeats 1000000 in
theorem f3_short (F : Interp) (p : ByteArray) (w : World) (hF : F.answers w.tape) (hs : p.size ≤ 1048576) (hx : p.size ≤ 105) : Calls Tryf.prog 3 #[.string p] w fun e w' => e = .returned (.bool true) ∧ Below w.heap.size w w' := by
      have hr : okP (⟨#[46, 47]⟩ ++ p) = true := by rw [okP_dot p]; simp; omega
      have hd5 : decide ((p.size : Int) ≤ 105) = true := by simp; omega
      rcases ways p with ⟨rfl, hq⟩ | ⟨h0, he, h1, hq⟩ | ⟨h0, he, h1, h2, hq⟩ | ⟨h0, he, h1, h2, h3, hq⟩ | ⟨h0, he, h1, h2, h3, hq⟩
      · exact f3_empty F w hF
      rotate_right
      · omega
      all_goals
        have HR : Hid _ := hr
        have HQ : Hid _ := hq
        clear hr hq
        go_enter Tryf.func3, Tryf.ntmps3
        go_wp2_with fail
        refine (z5 p w hs).mono ?_
        rintro e w' ⟨rfl, rfl⟩
        go_wp2_with fail
        refine (c6_any F _ w' hF ?_).mono ?_
        · rw [ByteArray.size_append]; have : (⟨#[46, 47]⟩ : ByteArray).size = 2 := rfl; omega
        rintro e w1 ⟨hc, hB1⟩
        obtain rfl := chk_yes hc HR.out
        have hF1 : F.answers w1.tape := by rw [hB1.tape]; exact hF
        go_wp2_with fail
        refine (c6_any F _ w1 hF1 (by omega)).mono ?_
        rintro e w2 ⟨hc2, hB2⟩
        have hBB := hB1.trans (hB2.mono hB1.size)
        rcases hc2 with ⟨ho, rfl⟩ | ⟨ho, a2, rfl⟩ <;> rw [HQ.out] at ho <;> cases ho
        go_wp2_with fail
        go_ret
        exact ⟨rfl, hBB⟩

theorem f3_any (F : Interp) (p : ByteArray) (w : World) (hF : F.answers w.tape) : Calls Tryf.prog 3 #[.string p] w fun e w' => e = .returned (.bool true) ∧ Below w.heap.size w w' := by
  by_cases hs : p.size ≤ 1048576
  · rcases Nat.lt_or_ge 105 p.size with hx | hx
    · exact f3_over F p w hF hs hx
    · exact f3_short F p w hF hs hx
  · go_enter Tryf.func3, Tryf.ntmps3
    go_wp2_with fail
    refine (z5_not p w hs).mono ?_
    rintro e w' ⟨rfl, rfl⟩
    go_wp2_with fail
    go_ret
    exact ⟨rfl, Below.refl _ _⟩

/-! ### The second law -/
/-- It returns a bool. -/
def IsBool (e : Ending) : Prop := ∃ b, e = .returned (.bool b)
theorem isBool (b : Bool) : IsBool (.returned (.bool b)) := ⟨b, rfl⟩

set_option maxHeartbeats 400000 in
theorem z7 (a b : ByteArray) (w : World) (ha : a.size ≤ 9223372036854775807) (hb : b.size ≤ 9223372036854775807) : Calls Tryf.prog 7 #[.string a, .string b] w fun e w' => IsBool e ∧ w' = w := by
  go_enter Tryf.func7, Tryf.ntmps7
  go_wp2
  all_goals (go_ret; exact ⟨isBool _, rfl⟩)

theorem okP_append (a b : ByteArray) (h : 0 < a.size) : okP (a ++ b) = (okP a && decide (a.size + b.size ≤ 107)) := by
  have hz : (a ++ b).size = a.size + b.size := ByteArray.size_append
  have h0 : 0 < (a ++ b).size := by omega
  have hf : (a ++ b)[0] = a[0] := ByteArray.getElem_append_left h
  unfold okP
  rw [dif_pos h0, dif_pos h, hf, hz]
  by_cases h1 : a.size + b.size ≤ 107
  · have h2 : a.size ≤ 107 := by omega
    simp [h1, h2]
  · simp [h1]

set_option maxHeartbeats 1000000 in
theorem f4_any (F : Interp) (a b : ByteArray) (w : World) (hF : F.answers w.tape) (ha : a.size ≤ 9223372036854775807) (hb : b.size ≤ 9223372036854775807) :
    Calls Tryf.prog 4 #[.string a, .string b] w fun e w' => e = .returned (.bool true) ∧ Below w.heap.size w w' := by
  go_enter Tryf.func4, Tryf.ntmps4
  go_wp2_with fail
  refine (z7 a b w ha hb).mono ?_
  rintro e w' ⟨⟨t, rfl⟩, rfl⟩
  cases t
  · go_wp2_with fail
    go_ret
    exact ⟨rfl, Below.refl _ _⟩
  by_cases h1 : a.size ≤ 524288
  rotate_left
  · go_wp2_with fail
    go_ret
    exact ⟨rfl, Below.refl _ _⟩
  by_cases h2 : b.size ≤ 524288
  rotate_left
  · go_wp2_with fail
    go_ret
    exact ⟨rfl, Below.refl _ _⟩
  by_cases h3 : 0 < a.size
  rotate_left
  · obtain rfl := empty_of a h3
    go_wp2_with fail
    go_ret
    exact ⟨rfl, Below.refl _ _⟩
  have he := notEmpty_of a h3
  have HP : Hid _ := okP_append a b h3
  go_wp2_with fail
  refine (c6_any F _ w' hF ?_).mono ?_
  · rw [ByteArray.size_append]; omega
  rintro e w1 ⟨hc, hB1⟩
  have hF1 : F.answers w1.tape := by rw [hB1.tape]; exact hF
  rcases hc with ⟨ho, rfl⟩ | ⟨ho, a1, rfl⟩ <;> rw [HP.out] at ho
  · obtain ⟨o1, o2⟩ : okP a = true ∧ a.size + b.size ≤ 107 := by simpa using ho
    have HQ : Hid _ := o1
    clear ho o1
    go_wp2_with fail
    refine (c6_any F _ w1 hF1 (by omega)).mono ?_
    rintro e w2 ⟨hc2, hB2⟩
    have hBB := hB1.trans (hB2.mono hB1.size)
    obtain rfl := chk_yes hc2 HQ.out
    have hd : decide ((a.size : Int) + (b.size : Int) ≤ 107) = true := by simp; omega
    go_wp2_with fail
    go_ret
    exact ⟨rfl, hBB⟩
  · have HO : Hid _ := ho
    clear ho
    go_wp2_with fail
    refine (c6_any F _ w1 hF1 (by omega)).mono ?_
    rintro e w2 ⟨hc2, hB2⟩
    have hBB := hB1.trans (hB2.mono hB1.size)
    rcases hc2 with ⟨ho2, rfl⟩ | ⟨ho2, a2, rfl⟩
    · have hd : decide ((a.size : Int) + (b.size : Int) ≤ 107) = false := by
        have := HO.out
        rw [ho2] at this
        simp at this
        simp
        omega
      clear ho2
      go_wp2_with fail
      go_ret
      exact ⟨rfl, hBB⟩
    · clear ho2
      go_wp2_with fail
      go_ret
      exact ⟨rfl, hBB⟩

end Go.Proofs.Qxb6630343aFmt
