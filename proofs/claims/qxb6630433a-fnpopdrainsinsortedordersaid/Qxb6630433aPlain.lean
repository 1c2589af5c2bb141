/-
  THE PLAIN LAW of seat b6630433a: heaps laid out in a row; a hole that moves down; merging. No Go in sight.
-/
namespace Go.Proofs.Qxb6630433a.Plain

/-! ### Heaps -/
/-- Every element is no smaller than its parent. -/
def Hp (C : List Int) : Prop := ∀ j, 1 ≤ j → j < C.length → C.getD ((j - 1) / 2) 0 ≤ C.getD j 0

/-- Heap-ordered but for what stands at k, which may be too large for its children. -/
def Hole (C : List Int) (k : Nat) : Prop :=
  (∀ j, 1 ≤ j → j < C.length → (j - 1) / 2 ≠ k → C.getD ((j - 1) / 2) 0 ≤ C.getD j 0) ∧
  (∀ j, 1 ≤ j → j < C.length → (j - 1) / 2 = k → 1 ≤ k → C.getD ((k - 1) / 2) 0 ≤ C.getD j 0)

theorem getD_set (C : List Int) (k j : Nat) (x : Int) (hk : k < C.length) : (C.set k x).getD j 0 = if j = k then x else C.getD j 0 := by
  by_cases h : j = k
  · subst h
    simp [hk]
  · simp [h, Ne.symm h]

theorem getD_take (C : List Int) (m j : Nat) (hj : j < m) : (C.take m).getD j 0 = C.getD j 0 := by
  simp [hj]

theorem hp_take {C : List Int} (h : Hp C) (m : Nat) : Hp (C.take m) := by
  intro j h1 h2
  rw [List.length_take] at h2
  rw [getD_take _ _ _ (by omega), getD_take _ _ _ (by omega)]
  exact h j h1 (by omega)

/-- The root is the least. -/
theorem hp_root {C : List Int} (h : Hp C) (j : Nat) (hj : j < C.length) : C.getD 0 0 ≤ C.getD j 0 := by
  induction j using Nat.strongRecOn with
  | _ j ih =>
    by_cases h0 : j = 0
    · subst h0; exact Int.le_refl _
    · exact Int.le_trans (ih ((j - 1) / 2) (by omega) (by omega)) (h j (by omega) hj)

theorem hp_min {C : List Int} (h : Hp C) (x : Int) (hx : x ∈ C) : C.getD 0 0 ≤ x := by
  obtain ⟨j, hj, rfl⟩ := List.mem_iff_getElem.1 hx
  have := hp_root h j hj
  simpa [hj] using this

theorem hole_start {l : List Int} {m : Nat} (h : Hp l) (hm : 1 ≤ m) (hl : m < l.length) (x : Int) : Hole ((l.take m).set 0 x) 0 := by
  have hlen : (l.take m).length = m := by rw [List.length_take]; omega
  refine ⟨fun j h1 h2 h3 => ?_, fun _ _ _ _ h => by omega⟩
  rw [List.length_set, hlen] at h2
  rw [getD_set _ _ _ _ (by omega), getD_set _ _ _ _ (by omega), if_neg h3, if_neg (by omega), getD_take _ _ _ (by omega), getD_take _ _ _ h2]
  exact h j h1 (by omega)

theorem hole_step {C : List Int} {k c : Nat} (h : Hole C k) (hk : k < C.length) (hc : c < C.length) (hc1 : 1 ≤ c) (hck : (c - 1) / 2 = k) (hlt : C.getD c 0 ≤ C.getD k 0)
    (hmin : ∀ j, 1 ≤ j → j < C.length → (j - 1) / 2 = k → C.getD c 0 ≤ C.getD j 0) : Hole ((C.set k (C.getD c 0)).set c (C.getD k 0)) c := by
  obtain ⟨ha, hb⟩ := h
  have hkc : k ≠ c := by omega
  have hg : ∀ j, ((C.set k (C.getD c 0)).set c (C.getD k 0)).getD j 0 = if j = c then C.getD k 0 else if j = k then C.getD c 0 else C.getD j 0 := by
    intro j
    rw [getD_set _ _ _ _ (by simpa using hc)]
    split
    · rfl
    · rw [getD_set _ _ _ _ hk]
  have hlen : ((C.set k (C.getD c 0)).set c (C.getD k 0)).length = C.length := by simp
  refine ⟨fun j h1 h2 h3 => ?_, fun j h1 h2 h3 h4 => ?_⟩
  · rw [hlen] at h2
    rw [hg, hg, if_neg h3]
    by_cases hjc : j = c
    · subst hjc
      rw [if_pos rfl, if_pos hck]
      exact hlt
    rw [if_neg hjc]
    by_cases hpk : (j - 1) / 2 = k
    · rw [if_pos hpk, if_neg (by omega)]
      exact hmin j h1 h2 hpk
    rw [if_neg hpk]
    by_cases hjk : j = k
    · subst hjk
      rw [if_pos rfl]
      exact hb c hc1 hc hck (by omega)
    rw [if_neg hjk]
    exact ha j h1 h2 hpk
  · rw [hlen] at h2
    rw [hg, hg, hck, if_neg hkc, if_pos rfl, if_neg (by omega), if_neg (by omega), ← h3]
    exact ha j h1 h2 (by omega)

theorem hole_done {C : List Int} {k : Nat} (h : Hole C k) (hmin : ∀ j, 1 ≤ j → j < C.length → (j - 1) / 2 = k → C.getD k 0 ≤ C.getD j 0) : Hp C := by
  intro j h1 h2
  by_cases hp : (j - 1) / 2 = k
  · rw [hp]; exact hmin j h1 h2 hp
  · exact h.1 j h1 h2 hp

/-- The children of k: 2k+1 and 2k+2. -/
theorem kids {j k : Nat} (h1 : 1 ≤ j) (h : (j - 1) / 2 = k) : j = 2 * k + 1 ∨ j = 2 * k + 2 := by omega

theorem swap_perm {C : List Int} {k c : Nat} (hk : k < C.length) (hc : c < C.length) : ((C.set k (C.getD c 0)).set c (C.getD k 0)).Perm C := by
  have := List.set_set_perm (as := C) hk hc
  simpa [hk, hc] using this

/-- At the start: the least one set aside, the last one in the root's place. -/
theorem start_perm {l : List Int} {m : Nat} (hm : 1 ≤ m) (hl : l.length = m + 1) : (l.getD 0 0 :: (l.take m).set 0 (l.getD m 0)).Perm l := by
  cases l with
  | nil => simp at hl
  | cons a r =>
    obtain ⟨t, rfl⟩ : ∃ t, m = t + 1 := ⟨m - 1, by omega⟩
    have hr : r.length = t + 1 := by simpa using hl
    have e : r = r.take t ++ [r.getD t 0] := by
      have h := List.take_succ_eq_append_getElem (l := r) (i := t) (by omega)
      rw [List.take_of_length_le (by omega)] at h
      simpa [show t < r.length by omega] using h
    show (a :: (r.getD t 0 :: r.take t)).Perm (a :: r)
    refine List.Perm.cons a ?_
    conv => rhs; rw [e]
    exact (List.perm_append_comm (l₁ := [r.getD t 0]) (l₂ := r.take t))

/-! ### Sorted rows -/
def Srt (l : List Int) : Prop := l.Pairwise (· ≤ ·)

theorem srt_unique {l m : List Int} (hl : Srt l) (hm : Srt m) (h : l.Perm m) : l = m :=
  List.Perm.eq_of_pairwise (fun _ _ _ _ h1 h2 => Int.le_antisymm h1 h2) hl hm h

/-- What is no larger than all the others stands first. -/
theorem srt_min {W l r : List Int} {s : Int} (hW : Srt W) (hp : W.Perm l) (hl : (s :: r).Perm l) (hs : ∀ x ∈ l, s ≤ x) : ∃ V, W = s :: V ∧ Srt V ∧ V.Perm r := by
  cases W with
  | nil => exact absurd (hl.trans hp.symm).length_eq (by simp)
  | cons a V =>
    obtain ⟨h1, h2⟩ := List.pairwise_cons.1 hW
    have ha : a = s := by
      apply Int.le_antisymm
      · have : s ∈ a :: V := (hp.mem_iff).2 ((hl.mem_iff).1 (by simp))
        rcases List.mem_cons.1 this with rfl | h
        · exact Int.le_refl _
        · exact h1 s h
      · exact hs a ((hp.mem_iff).1 (by simp))
    subst ha
    exact ⟨V, rfl, h2, (hp.trans hl.symm).cons_inv⟩

/-! ### Cuts of a row -/
def seg (X : List Int) (a b : Nat) : List Int := (X.take b).drop a

theorem seg_nil (X : List Int) {a b : Nat} (h : b ≤ a) : seg X a b = [] := by
  unfold seg
  rw [List.drop_eq_nil_iff, List.length_take]
  omega
theorem seg_far (X : List Int) {a b : Nat} (h : X.length ≤ a) : seg X a b = [] := by
  unfold seg
  rw [List.drop_eq_nil_iff, List.length_take]
  omega
theorem seg_snoc (X : List Int) {a b : Nat} (h : a ≤ b) (hb : b < X.length) : seg X a (b + 1) = seg X a b ++ [X.getD b 0] := by
  unfold seg
  rw [List.take_succ_eq_append_getElem hb, List.drop_append_of_le_length (by rw [List.length_take]; omega)]
  simp [hb]
theorem seg_cons (X : List Int) {a b : Nat} (h : a < b) (ha : a < X.length) : seg X a b = X.getD a 0 :: seg X (a + 1) b := by
  unfold seg
  rw [List.drop_eq_getElem_cons (by rw [List.length_take]; omega)]
  simp [ha]
theorem seg_clip (X : List Int) {a b : Nat} (h : X.length ≤ b) : seg X a b = seg X a X.length := by
  unfold seg
  rw [List.take_of_length_le h, List.take_length]
theorem seg_append (X : List Int) {a b c : Nat} (h1 : a ≤ b) (h2 : b ≤ c) (hb : b ≤ X.length) : seg X a b ++ seg X b c = seg X a c := by
  unfold seg
  have e : X.take c = X.take b ++ (X.take c).drop b := by
    have := List.take_append_drop b (X.take c)
    rw [List.take_take, Nat.min_eq_left h2] at this
    exact this.symm
  conv => rhs; rw [e]
  rw [List.drop_append_of_le_length (by rw [List.length_take]; omega)]
theorem seg_zero (X : List Int) (b : Nat) : seg X 0 b = X.take b := rfl
theorem seg_set (X : List Int) (k a b : Nat) (v : Int) (h : b ≤ k) : seg (X.set k v) a b = seg X a b := by
  unfold seg
  rw [List.take_set_of_le h]
theorem seg_of_take {X Y : List Int} {n a b : Nat} (h : X.take n = Y.take n) (hb : b ≤ n) : seg X a b = seg Y a b := by
  unfold seg
  have hx : X.take b = (X.take n).take b := by rw [List.take_take, Nat.min_eq_left hb]
  have hy : Y.take b = (Y.take n).take b := by rw [List.take_take, Nat.min_eq_left hb]
  rw [hx, hy, h]
theorem seg_put (X : List Int) {a b : Nat} (v : Int) (h : a ≤ b) (hb : b < X.length) : seg (X.set b v) a (b + 1) = seg X a b ++ [v] := by
  rw [seg_snoc _ h (by simpa using hb), seg_set _ _ _ _ _ (Nat.le_refl _)]
  simp [hb]

/-! ### Merging -/
structure Mrg (A M : List Int) (lo mid hi i j : Nat) : Prop where
  perm : M.Perm (seg A lo i ++ seg A mid j)
  srt : Srt M
  left : ∀ m ∈ M, ∀ r ∈ seg A i mid, m ≤ r
  right : ∀ m ∈ M, ∀ r ∈ seg A j hi, m ≤ r

theorem srt_snoc {M : List Int} {a : Int} (h : Srt M) (ha : ∀ m ∈ M, m ≤ a) : Srt (M ++ [a]) :=
  List.pairwise_append.2 ⟨h, by simp, fun x hx y hy => by simp at hy; subst hy; exact ha x hx⟩

theorem mrg_start (A : List Int) (lo mid hi : Nat) : Mrg A [] lo mid hi lo mid :=
  ⟨by rw [seg_nil A (Nat.le_refl lo), seg_nil A (Nat.le_refl mid)]; exact List.Perm.refl _, List.Pairwise.nil, (fun _ h => by cases h), (fun _ h => by cases h)⟩

theorem mrg_left {A M : List Int} {lo mid hi i j : Nat} (h : Mrg A M lo mid hi i j) (hi1 : lo ≤ i) (hi2 : i < mid) (hm : mid ≤ A.length) (hh : hi ≤ A.length) (s1 : Srt (seg A i mid)) (s2 : Srt (seg A j hi))
    (hc : hi ≤ j ∨ A.getD i 0 ≤ A.getD j 0) : Mrg A (M ++ [A.getD i 0]) lo mid hi (i + 1) j ∧ Srt (seg A (i + 1) mid) := by
  rw [seg_cons A hi2 (by omega)] at s1
  obtain ⟨t1, t2⟩ := List.pairwise_cons.1 s1
  have hL : ∀ m ∈ M, m ≤ A.getD i 0 := fun m hm' => h.left m hm' _ (by rw [seg_cons A hi2 (by omega)]; simp)
  refine ⟨⟨?_, srt_snoc h.srt hL, ?_, ?_⟩, t2⟩
  · rw [seg_snoc A hi1 (by omega)]
    refine (h.perm.append_right _).trans ?_
    rw [List.append_assoc, List.append_assoc]
    exact List.Perm.append_left _ List.perm_append_comm
  · intro m hm' r hr
    rcases List.mem_append.1 hm' with hm' | hm'
    · exact h.left m hm' r (by rw [seg_cons A hi2 (by omega)]; simp [hr])
    · simp at hm'; subst hm'; simpa using t1 r hr
  · intro m hm' r hr
    rcases List.mem_append.1 hm' with hm' | hm'
    · exact h.right m hm' r hr
    · simp at hm'; subst hm'
      rcases hc with hc | hc
      · rw [seg_nil A hc] at hr; cases hr
      · by_cases hj : j < hi
        · rw [seg_cons A hj (by omega)] at s2 hr
          obtain ⟨u1, _⟩ := List.pairwise_cons.1 s2
          rcases List.mem_cons.1 hr with rfl | hr
          · simpa using hc
          · have := u1 r hr
            have hc' : A.getD i 0 ≤ A.getD j 0 := hc
            have h3 : A.getD i 0 ≤ r := Int.le_trans hc' this
            simpa using h3
        · rw [seg_nil A (by omega)] at hr; cases hr

theorem mrg_right {A M : List Int} {lo mid hi i j : Nat} (h : Mrg A M lo mid hi i j) (hj1 : mid ≤ j) (hj2 : j < hi) (hh : hi ≤ A.length) (s1 : Srt (seg A i mid)) (s2 : Srt (seg A j hi))
    (hc : mid ≤ i ∨ A.getD j 0 ≤ A.getD i 0) (_hm : mid ≤ A.length) : Mrg A (M ++ [A.getD j 0]) lo mid hi i (j + 1) ∧ Srt (seg A (j + 1) hi) := by
  rw [seg_cons A hj2 (by omega)] at s2
  obtain ⟨t1, t2⟩ := List.pairwise_cons.1 s2
  have hL : ∀ m ∈ M, m ≤ A.getD j 0 := fun m hm' => h.right m hm' _ (by rw [seg_cons A hj2 (by omega)]; simp)
  refine ⟨⟨?_, srt_snoc h.srt hL, ?_, ?_⟩, t2⟩
  · rw [seg_snoc A hj1 (by omega), ← List.append_assoc]
    exact h.perm.append_right _
  · intro m hm' r hr
    rcases List.mem_append.1 hm' with hm' | hm'
    · exact h.left m hm' r hr
    · simp at hm'; subst hm'
      rcases hc with hc | hc
      · rw [seg_nil A hc] at hr; cases hr
      · by_cases hi : i < mid
        · rw [seg_cons A hi (by omega)] at s1 hr
          obtain ⟨u1, _⟩ := List.pairwise_cons.1 s1
          rcases List.mem_cons.1 hr with rfl | hr
          · simpa using hc
          · have := u1 r hr
            have hc' : A.getD j 0 ≤ A.getD i 0 := hc
            have h3 : A.getD j 0 ≤ r := Int.le_trans hc' this
            simpa using h3
        · rw [seg_nil A (by omega)] at hr; cases hr
  · intro m hm' r hr
    rcases List.mem_append.1 hm' with hm' | hm'
    · exact h.right m hm' r (by rw [seg_cons A hj2 (by omega)]; simp [hr])
    · simp at hm'; subst hm'; simpa using t1 r hr

theorem mrg_end {A M : List Int} {lo mid hi : Nat} (h : Mrg A M lo mid hi mid hi) (h1 : lo ≤ mid) (h2 : mid ≤ hi) (hm : mid ≤ A.length) : M.Perm (seg A lo hi) ∧ Srt M := by
  have := h.perm
  rw [seg_append A h1 h2 hm] at this
  exact ⟨this, h.srt⟩

/-- Sorted in runs of w. -/
def Runs (A : List Int) (w : Nat) : Prop := ∀ t, Srt (seg A (t * w) (t * w + w))

theorem runs_one (A : List Int) : Runs A 1 := by
  intro t
  by_cases h : t < A.length
  · rw [Nat.mul_one, seg_cons A (by omega) h, seg_nil A (by omega)]
    exact List.pairwise_singleton _ _
  · rw [seg_far A (by omega)]
    exact List.Pairwise.nil
theorem runs_whole {A : List Int} {w : Nat} (h : Runs A w) (hw : A.length ≤ w) : Srt A := by
  have := h 0
  rw [Nat.zero_mul, Nat.zero_add, seg_zero, List.take_of_length_le hw] at this
  exact this

/-- The rounds of the middle loop: the first t runs of twice the width are merged. -/
structure Mid (A B : List Int) (w t : Nat) : Prop where
  perm : (B.take (min (t * (2 * w)) A.length)).Perm (A.take (min (t * (2 * w)) A.length))
  runs : ∀ s, s < t → Srt (seg B (s * (2 * w)) (s * (2 * w) + 2 * w))

theorem mid_start (A B : List Int) (w : Nat) : Mid A B w 0 := ⟨by simp, fun s h => by omega⟩

theorem mid_step {A B B' : List Int} {w t lo hi : Nat} (h : Mid A B w t) (hlo : lo = t * (2 * w)) (hlt : lo < A.length) (hhi : hi = min (lo + 2 * w) A.length) (hw : 1 ≤ w) (hB : B.length = A.length) (hB' : B'.length = A.length) (ht : B'.take lo = B.take lo)
    (hp : (seg B' lo hi).Perm (seg A lo hi)) (hs : Srt (seg B' lo hi)) : Mid A B' w (t + 1) := by
  have e1 : min (t * (2 * w)) A.length = lo := by omega
  have hmul : (t + 1) * (2 * w) = lo + 2 * w := by rw [Nat.succ_mul, hlo]
  have e2 : min ((t + 1) * (2 * w)) A.length = hi := by rw [hmul, hhi]
  refine ⟨?_, fun s hs' => ?_⟩
  · have h1 := h.perm
    rw [e1] at h1
    rw [e2]
    have c1 : B'.take hi = B'.take lo ++ seg B' lo hi := by
      have := seg_append B' (a := 0) (b := lo) (c := hi) (by omega) (by omega) (by omega)
      rw [seg_zero, seg_zero] at this
      exact this.symm
    have c2 : A.take hi = A.take lo ++ seg A lo hi := by
      have := seg_append A (a := 0) (b := lo) (c := hi) (by omega) (by omega) (by omega)
      rw [seg_zero, seg_zero] at this
      exact this.symm
    rw [c1, c2, ht]
    exact List.Perm.append h1 hp
  · by_cases hst : s < t
    · have h2 := h.runs s hst
      have hle : s * (2 * w) + 2 * w ≤ lo := by
        have : (s + 1) * (2 * w) ≤ t * (2 * w) := Nat.mul_le_mul_right _ (by omega)
        rw [Nat.succ_mul] at this
        omega
      rw [seg_of_take ht hle]
      exact h2
    · obtain rfl : s = t := by omega
      rw [← hlo]
      by_cases hc : lo + 2 * w ≤ A.length
      · rw [show lo + 2 * w = hi from by omega]; exact hs
      · rw [seg_clip B' (show B'.length ≤ lo + 2 * w by omega), hB', show A.length = hi from by omega]
        exact hs

theorem mid_end {A B : List Int} {w t : Nat} (h : Mid A B w t) (hlo : A.length ≤ t * (2 * w)) (hB : B.length = A.length) : B.Perm A ∧ Runs B (2 * w) := by
  have h1 := h.perm
  rw [Nat.min_eq_right hlo, List.take_of_length_le (by omega), List.take_of_length_le (Nat.le_refl _)] at h1
  refine ⟨h1, fun s => ?_⟩
  by_cases hst : s < t
  · exact h.runs s hst
  · have : t * (2 * w) ≤ s * (2 * w) := Nat.mul_le_mul_right _ (by omega)
    rw [seg_far B (by omega)]
    exact List.Pairwise.nil

/-- The two runs that a round merges. -/
theorem runs_two {A : List Int} {w t lo mid hi : Nat} (h : Runs A w) (hlo : lo = t * (2 * w)) (hmid : mid = min (lo + w) A.length) (hhi : hi = min (lo + 2 * w) A.length) : Srt (seg A lo mid) ∧ Srt (seg A mid hi) := by
  have m1 : (2 * t) * w = lo := by rw [hlo, ← Nat.mul_assoc, Nat.mul_comm 2 t]
  have m2 : (2 * t + 1) * w = lo + w := by rw [Nat.succ_mul, m1]
  have h1 := h (2 * t)
  have h2 := h (2 * t + 1)
  rw [m1] at h1
  rw [m2] at h2
  constructor
  · by_cases hc : lo + w ≤ A.length
    · rw [show mid = lo + w from by omega]; exact h1
    · rw [seg_clip A (by omega)] at h1
      rw [show mid = A.length from by omega]; exact h1
  · by_cases hc : lo + w ≤ A.length
    · rw [show mid = lo + w from by omega]
      by_cases hd : lo + 2 * w ≤ A.length
      · rw [show hi = lo + w + w from by omega]; exact h2
      · rw [seg_clip A (by omega)] at h2
        rw [show hi = A.length from by omega]; exact h2
    · rw [show mid = A.length from by omega, seg_far A (Nat.le_refl _)]
      exact List.Pairwise.nil

end Go.Proofs.Qxb6630433a.Plain
