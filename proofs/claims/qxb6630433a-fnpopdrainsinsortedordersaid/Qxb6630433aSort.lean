import Derived.Test.Qxb6630433aPop
namespace Go.Proofs.Qxb6630433a
open Go.RowKit

/-- The two rows, whichever is which. -/
def Pair (ga gb g N : Nat) : Prop := (ga = g ∧ gb = N) ∨ (ga = N ∧ gb = g)
theorem Pair.swap {ga gb g N : Nat} (h : Pair ga gb g N) : Pair gb ga g N := by unfold Pair at *; omega
theorem Pair.ne {ga gb g N : Nat} (h : Pair ga gb g N) (hne : g ≠ N) : ga ≠ gb := by unfold Pair at *; omega
theorem Only.setP {w w' : World} {g N ga gb : Nat} (h : Only w w' g N) (hp : Pair ga gb g N) (i : Nat) (v : Value) : Only w (w'.setCell ⟨gb, i, none⟩ v) g N := by
  rcases hp with ⟨_, rfl⟩ | ⟨_, rfl⟩
  · exact h.setB i v
  · exact h.setA i v

open Plain in
theorem put_left {A B : List Int} {lo mid hi i j k : Nat} (h : Mrg A (seg B lo k) lo mid hi i j) (hlk : lo ≤ k) (hk : k < B.length) (hi1 : lo ≤ i) (hi2 : i < mid) (hm : mid ≤ A.length) (hh : hi ≤ A.length) (s1 : Srt (seg A i mid)) (s2 : Srt (seg A j hi))
    (hc : hi ≤ j ∨ A.getD i 0 ≤ A.getD j 0) : Mrg A (seg (B.set k (A.getD i 0)) lo (k + 1)) lo mid hi (i + 1) j ∧ Srt (seg A (i + 1) mid) := by
  rw [seg_put _ _ hlk hk]
  exact mrg_left h hi1 hi2 hm hh s1 s2 hc
open Plain in
theorem put_right {A B : List Int} {lo mid hi i j k : Nat} (h : Mrg A (seg B lo k) lo mid hi i j) (hlk : lo ≤ k) (hk : k < B.length) (hj1 : mid ≤ j) (hj2 : j < hi) (hh : hi ≤ A.length) (s1 : Srt (seg A i mid)) (s2 : Srt (seg A j hi))
    (hc : mid ≤ i ∨ A.getD j 0 ≤ A.getD i 0) (hm : mid ≤ A.length) : Mrg A (seg (B.set k (A.getD j 0)) lo (k + 1)) lo mid hi i (j + 1) ∧ Srt (seg A (j + 1) hi) := by
  rw [seg_put _ _ hlk hk]
  exact mrg_right h hj1 hj2 hh s1 s2 hc hm

/-- What the inner loop keeps of the rows. -/
structure Inn (A B1 B2 : List Int) (n lo mid hi i j k : Nat) : Prop where
  len : B2.length = n
  low : B2.take lo = B1.take lo
  mrg : Plain.Mrg A (Plain.seg B2 lo k) lo mid hi i j
  s1 : Plain.Srt (Plain.seg A i mid)
  s2 : Plain.Srt (Plain.seg A j hi)
  sum : k + mid = i + j
theorem inn_left {A B1 B2 : List Int} {n lo mid hi i j k : Nat} (h : Inn A B1 B2 n lo mid hi i j k) (hA : A.length = n) (hi1 : lo ≤ i) (hi2 : i < mid) (hj1 : mid ≤ j) (hk : k < hi) (hhn : hi ≤ n) (hmn : mid ≤ n) (hc : hi ≤ j ∨ A.getD i 0 ≤ A.getD j 0) :
    Inn A B1 (B2.set k (A.getD i 0)) n lo mid hi (i + 1) j (k + 1) := by
  have hs := h.sum
  obtain ⟨m1, m2⟩ := put_left h.mrg (by omega) (by rw [h.len]; omega) hi1 hi2 (by omega) (by omega) h.s1 h.s2 hc
  exact ⟨by simp [h.len], by rw [List.take_set_of_le (by omega)]; exact h.low, m1, m2, h.s2, by omega⟩
theorem inn_right {A B1 B2 : List Int} {n lo mid hi i j k : Nat} (h : Inn A B1 B2 n lo mid hi i j k) (hA : A.length = n) (hi1 : lo ≤ i) (hj1 : mid ≤ j) (hj2 : j < hi) (hk : k < hi) (hhn : hi ≤ n) (hmn : mid ≤ n) (hc : mid ≤ i ∨ A.getD j 0 ≤ A.getD i 0) :
    Inn A B1 (B2.set k (A.getD j 0)) n lo mid hi i (j + 1) (k + 1) := by
  have hs := h.sum
  obtain ⟨m1, m2⟩ := put_right h.mrg (by omega) (by rw [h.len]; omega) hj1 hj2 (by omega) h.s1 h.s2 hc (by omega)
  exact ⟨by simp [h.len], by rw [List.take_set_of_le (by omega)]; exact h.low, m1, h.s1, m2, by omega⟩
theorem inn_start {A B1 : List Int} {n lo mid hi : Nat} (hB : B1.length = n) (s1 : Plain.Srt (Plain.seg A lo mid)) (s2 : Plain.Srt (Plain.seg A mid hi)) : Inn A B1 B1 n lo mid hi lo mid lo :=
  ⟨hB, rfl, by rw [Plain.seg_nil B1 (Nat.le_refl lo)]; exact Plain.mrg_start A lo mid hi, s1, s2, rfl⟩
theorem inn_end {A B1 B2 : List Int} {n lo mid hi wd t : Nat} (h : Inn A B1 B2 n lo mid hi mid hi hi) (hA : A.length = n) (hB1 : B1.length = n) (hm : Plain.Mid A B1 wd t) (hlo : lo = t * (2 * wd)) (hlt : lo < n) (hmid : mid = min (lo + wd) n) (hhi : hi = min (lo + 2 * wd) n) (hw : 1 ≤ wd) : Plain.Mid A B2 wd (t + 1) := by
  obtain ⟨p1, p2⟩ := Plain.mrg_end h.mrg (by omega) (by omega) (by omega)
  exact Plain.mid_step hm hlo (by omega) (by rw [hA]; exact hhi) hw (by omega) (by rw [h.len, hA]) h.low p1 p2

open Plain in
set_option maxRecDepth 10000 in
set_option maxHeartbeats 2000000 in
theorem sort_any (g n : Nat) (A0 : List Int) (w : World) (hA0 : A0.length = n) (hn : n ≤ 65536) (hg : IRow w g A0) :
    Calls Try.prog 11 #[.slice (some ⟨g, 0, none⟩) n n] w fun e w' => ∃ g' W, e = .returned (.slice (some ⟨g', 0, none⟩) n n) ∧ IRow w' g' W ∧ Srt W ∧ W.Perm A0 ∧ w.grownBy w' (some g) ∧ (g' = g ∨ w.heap.size ≤ g') := by
  obtain ⟨i0, hi, hz0, hz1, hz2⟩ := info_parts Try.info3
  have HA0 : Hid (A0.length = n) := hA0
  clear hA0
  have hglt := hg.lt
  go_enter Try.func11, Try.ntmps11
  go_wp2_with (at_make; refine wpList_make_full _ rfl _ _ 22 rfl 0 3 i0 (.int .i64 0) 1 Try.underlying22 hi hz0 hz1 _ _ _ _ n rfl rfl rfl rfl (by rw [hz2]; omega) (by unfold maxLen; omega) (Nat.zero_le _) ?_; intro w0 hown0 hgrow0)
  have hR0 := irow_made hown0
  have hg0 : IRow w0 g A0 := hg.grown hgrow0 (by simp)
  clear hown0
  go_loopw [0, 4, 5] (fun sa sb sw wr => ∃ (ga gb wd : Nat) (A B : List Int), Pair ga gb g w.heap.size ∧ sa = .slice (some ⟨ga, 0, none⟩) n n ∧ sb = .slice (some ⟨gb, 0, none⟩) n n ∧ sw = .int .i64 wd ∧ 1 ≤ wd ∧ wd ≤ 131072 ∧ IRow wr ga A ∧ IRow wr gb B ∧ A.length = n ∧ B.length = n ∧ Runs A wd ∧ A.Perm A0 ∧ Only w0 wr g w.heap.size)
    (fun _ _ sw _ => n - (intOf sw).toNat)
  case atStart => exact ⟨g, w.heap.size, 1, A0, _, .inl ⟨rfl, rfl⟩, rfl, rfl, rfl, by omega, by omega, hg0, hR0, HA0.out, by simp, runs_one _, List.Perm.refl _, Only.refl _ _ _⟩
  case round =>
    clear hg0 hR0
    obtain ⟨ga, gb, wd, A, B, hpair, rfl, rfl, rfl, hw1, hw2, hA, hB, hAl, hBl, hruns, hperm, hO⟩ := hrel
    have hgab := hpair.ne (Nat.ne_of_lt hglt)
    have hgba := Ne.symm hgab
    have HA : Hid (A.length = n ∧ Runs A wd ∧ A.Perm A0) := ⟨hAl, hruns, hperm⟩
    have HB : Hid (B.length = n) := hBl
    have HPr : Hid (Pair ga gb g w.heap.size) := hpair
    clear hAl hBl hruns hperm hpair
    by_cases hwn : wd < n
    · go_wp2
      obtain ⟨wo, rfl⟩ : ∃ wo : World, wo = wr := ⟨_, rfl⟩
      go_loopw [6] (fun sl wr => ∃ (t lo : Nat) (B1 : List Int), lo = t * (2 * wd) ∧ lo ≤ 200000 ∧ sl = .int .i64 lo ∧ IRow wr ga A ∧ IRow wr gb B1 ∧ B1.length = n ∧ Mid A B1 wd t ∧ Only w0 wr g w.heap.size)
        (fun sl _ => 400000 - (intOf sl).toNat)
      case atStart => exact ⟨0, 0, B, by simp, by omega, rfl, hA, hB, HB.out, mid_start _ _ _, hO⟩
      case round =>
        clear hA hB hO HB
        obtain ⟨t, lo, B1, hlo, hlo2, rfl, hA, hB, hBl, hmid, hO⟩ := hrel
        have HM : Hid (lo = t * (2 * wd) ∧ B1.length = n ∧ Mid A B1 wd t) := ⟨hlo, hBl, hmid⟩
        clear hlo hBl hmid
        by_cases hln : lo < n
        · have hcase : (lo + wd ≤ n ∧ lo + 2 * wd ≤ n) ∨ (lo + wd ≤ n ∧ n < lo + 2 * wd) ∨ (n < lo + wd ∧ n < lo + 2 * wd) := by omega
          rcases hcase with ⟨c1, c2⟩ | ⟨c1, c2⟩ | ⟨c1, c2⟩
          · obtain ⟨mid, e1⟩ : ∃ mid : Nat, (lo : Int) + (wd : Int) = (mid : Int) := ⟨lo + wd, by omega⟩
            obtain ⟨hi', e2⟩ : ∃ hi' : Nat, (lo : Int) + 2 * (wd : Int) = (hi' : Int) := ⟨lo + 2 * wd, by omega⟩
            have d1 : decide (n < mid) = false := by simp; omega
            have d2 : decide (n < hi') = false := by simp; omega
            obtain ⟨r1, r2⟩ := runs_two (mid := mid) (hi := hi') HA.out.2.1 HM.out.1 (by rw [HA.out.1]; omega) (by rw [HA.out.1]; omega)
            have HR : Hid _ := And.intro r1 r2
            clear r1 r2
            go_wp2
            obtain ⟨wi, rfl⟩ : ∃ wi : World, wi = wr := ⟨_, rfl⟩
            go_loopw [9, 10, 11] (fun si sj sk wr => ∃ (i j k : Nat) (B2 : List Int), lo ≤ i ∧ i ≤ mid ∧ mid ≤ j ∧ j ≤ hi' ∧ si = .int .i64 i ∧ sj = .int .i64 j ∧ sk = .int .i64 k ∧ IRow wr ga A ∧ IRow wr gb B2 ∧ Inn A B1 B2 n lo mid hi' i j k ∧ Only w0 wr g w.heap.size)
              (fun _ _ sk _ => hi' - (intOf sk).toNat)
            case atStart => exact ⟨lo, mid, lo, B1, Nat.le_refl _, by omega, Nat.le_refl _, by omega, rfl, by go_num, rfl, hA, hB, inn_start HM.out.2.1 HR.out.1 HR.out.2, hO⟩
            case round =>
              clear hA hB hO
              obtain ⟨i, j, k, B2, hi1, hi2, hj1, hj2, rfl, rfl, rfl, hA, hB, hinn, hO⟩ := hrel
              have HIn : Hid (Inn A B1 B2 n lo mid hi' i j k) := hinn
              have hs1 : k + mid ≤ i + j := Nat.le_of_eq hinn.sum
              have hs2 : i + j ≤ k + mid := Nat.le_of_eq hinn.sum.symm
              clear hinn
              by_cases hk : k < hi'
              · have kb := hB.cell k (by rw [HIn.out.len]; omega)
                have kf := hB.frozen k
                by_cases h1 : i < mid
                · obtain ⟨vi, HVi⟩ := named (A.getD i 0)
                  have ci := hA.cell i (by rw [HA.out.1]; omega)
                  rw [HVi.out] at ci
                  have g1 : decide (i < mid) = true := by simp; omega
                  by_cases h2 : hi' ≤ j
                  · have HN : Hid (Inn A B1 (B2.set k vi) n lo mid hi' (i + 1) j (k + 1)) := by
                      have := inn_left HIn.out HA.out.1 hi1 h1 hj1 hk (by omega) (by omega) (.inl h2)
                      rwa [HVi.out] at this
                    have g2 : decide (hi' ≤ j) = true := by simp; omega
                    go_wp2
                    go_quiet (fail)
                    go_wp2
                    go_roundw
                    case rel => exact ⟨i + 1, j, k + 1, _, by omega, by omega, by omega, by omega, by go_num, rfl, by go_num, (hA.other (by simpa using hgab) _).drewN _, (hB.set k vi).drewN _, HN.out, (hO.setP HPr.out k _).drewN _⟩
                    case measure => simp [intOf]; omega
                  · obtain ⟨vj, HVj⟩ := named (A.getD j 0)
                    have cj := hA.cell j (by rw [HA.out.1]; omega)
                    rw [HVj.out] at cj
                    have g2 : decide (hi' ≤ j) = false := by simp; omega
                    by_cases h3 : vi ≤ vj
                    · have HN : Hid (Inn A B1 (B2.set k vi) n lo mid hi' (i + 1) j (k + 1)) := by
                        have := inn_left HIn.out HA.out.1 hi1 h1 hj1 hk (by omega) (by omega) (.inr (by rw [HVi.out, HVj.out]; exact h3))
                        rwa [HVi.out] at this
                      go_wp2
                      go_quiet (fail)
                      go_wp2
                      go_roundw
                      case rel => exact ⟨i + 1, j, k + 1, _, by omega, by omega, by omega, by omega, by go_num, rfl, by go_num, (hA.other (by simpa using hgab) _).drewN _, (hB.set k vi).drewN _, HN.out, (hO.setP HPr.out k _).drewN _⟩
                      case measure => simp [intOf]; omega
                    · have HN : Hid (Inn A B1 (B2.set k vj) n lo mid hi' i (j + 1) (k + 1)) := by
                        have := inn_right HIn.out HA.out.1 hi1 hj1 (by omega) hk (by omega) (by omega) (.inr (by rw [HVi.out, HVj.out]; omega))
                        rwa [HVj.out] at this
                      go_wp2
                      go_quiet (fail)
                      go_wp2
                      go_roundw
                      case rel => exact ⟨i, j + 1, k + 1, _, by omega, by omega, by omega, by omega, rfl, by go_num, by go_num, (hA.other (by simpa using hgab) _).drewN _, (hB.set k vj).drewN _, HN.out, (hO.setP HPr.out k _).drewN _⟩
                      case measure => simp [intOf]; omega
                · have g1 : decide (i < mid) = false := by simp; omega
                  obtain ⟨vj, HVj⟩ := named (A.getD j 0)
                  have cj := hA.cell j (by rw [HA.out.1]; omega)
                  rw [HVj.out] at cj
                  have HN : Hid (Inn A B1 (B2.set k vj) n lo mid hi' i (j + 1) (k + 1)) := by
                    have := inn_right HIn.out HA.out.1 hi1 hj1 (by omega) hk (by omega) (by omega) (.inl (by omega))
                    rwa [HVj.out] at this
                  go_wp2
                  go_quiet (fail)
                  go_wp2
                  go_roundw
                  case rel => exact ⟨i, j + 1, k + 1, _, by omega, by omega, by omega, by omega, rfl, by go_num, by go_num, (hA.other (by simpa using hgab) _).drewN _, (hB.set k vj).drewN _, HN.out, (hO.setP HPr.out k _).drewN _⟩
                  case measure => simp [intOf]; omega
              · have HN : Hid (Mid A B2 wd (t + 1)) := by
                  have h := HIn.out
                  rw [show i = mid from by omega, show j = hi' from by omega, show k = hi' from by omega] at h
                  exact inn_end h HA.out.1 HM.out.2.1 HM.out.2.2 HM.out.1 hln (by omega) (by omega) hw1
                go_wp2
                go_roundw
                case rel => exact ⟨t + 1, lo + 2 * wd, B2, by rw [HM.out.1]; exact (Nat.succ_mul t (2 * wd)).symm, by omega, by go_num, hA, hB, HIn.out.len, HN.out, hO⟩
                case measure => simp [intOf]; omega
          · obtain ⟨mid, e1⟩ : ∃ mid : Nat, (lo : Int) + (wd : Int) = (mid : Int) := ⟨lo + wd, by omega⟩
            have d1 : decide (n < mid) = false := by simp; omega
            have d2 : decide ((n : Int) < (lo : Int) + 2 * (wd : Int)) = true := by simp; omega
            obtain ⟨r1, r2⟩ := runs_two (mid := mid) (hi := n) HA.out.2.1 HM.out.1 (by rw [HA.out.1]; omega) (by rw [HA.out.1]; omega)
            have HR : Hid _ := And.intro r1 r2
            clear r1 r2
            go_wp2
            obtain ⟨wi, rfl⟩ : ∃ wi : World, wi = wr := ⟨_, rfl⟩
            go_loopw [9, 10, 11] (fun si sj sk wr => ∃ (i j k : Nat) (B2 : List Int), lo ≤ i ∧ i ≤ mid ∧ mid ≤ j ∧ j ≤ n ∧ si = .int .i64 i ∧ sj = .int .i64 j ∧ sk = .int .i64 k ∧ IRow wr ga A ∧ IRow wr gb B2 ∧ Inn A B1 B2 n lo mid n i j k ∧ Only w0 wr g w.heap.size)
              (fun _ _ sk _ => n - (intOf sk).toNat)
            case atStart => exact ⟨lo, mid, lo, B1, Nat.le_refl _, by omega, Nat.le_refl _, by omega, rfl, by go_num, rfl, hA, hB, inn_start HM.out.2.1 HR.out.1 HR.out.2, hO⟩
            case round =>
              clear hA hB hO
              obtain ⟨i, j, k, B2, hi1, hi2, hj1, hj2, rfl, rfl, rfl, hA, hB, hinn, hO⟩ := hrel
              have HIn : Hid (Inn A B1 B2 n lo mid n i j k) := hinn
              have hs1 : k + mid ≤ i + j := Nat.le_of_eq hinn.sum
              have hs2 : i + j ≤ k + mid := Nat.le_of_eq hinn.sum.symm
              clear hinn
              by_cases hk : k < n
              · have kb := hB.cell k (by rw [HIn.out.len]; omega)
                have kf := hB.frozen k
                by_cases h1 : i < mid
                · obtain ⟨vi, HVi⟩ := named (A.getD i 0)
                  have ci := hA.cell i (by rw [HA.out.1]; omega)
                  rw [HVi.out] at ci
                  have g1 : decide (i < mid) = true := by simp; omega
                  by_cases h2 : n ≤ j
                  · have HN : Hid (Inn A B1 (B2.set k vi) n lo mid n (i + 1) j (k + 1)) := by
                      have := inn_left HIn.out HA.out.1 hi1 h1 hj1 hk (by omega) (by omega) (.inl h2)
                      rwa [HVi.out] at this
                    have g2 : decide (n ≤ j) = true := by simp; omega
                    go_wp2
                    go_quiet (fail)
                    go_wp2
                    go_roundw
                    case rel => exact ⟨i + 1, j, k + 1, _, by omega, by omega, by omega, by omega, by go_num, rfl, by go_num, (hA.other (by simpa using hgab) _).drewN _, (hB.set k vi).drewN _, HN.out, (hO.setP HPr.out k _).drewN _⟩
                    case measure => simp [intOf]; omega
                  · obtain ⟨vj, HVj⟩ := named (A.getD j 0)
                    have cj := hA.cell j (by rw [HA.out.1]; omega)
                    rw [HVj.out] at cj
                    have g2 : decide (n ≤ j) = false := by simp; omega
                    by_cases h3 : vi ≤ vj
                    · have HN : Hid (Inn A B1 (B2.set k vi) n lo mid n (i + 1) j (k + 1)) := by
                        have := inn_left HIn.out HA.out.1 hi1 h1 hj1 hk (by omega) (by omega) (.inr (by rw [HVi.out, HVj.out]; exact h3))
                        rwa [HVi.out] at this
                      go_wp2
                      go_quiet (fail)
                      go_wp2
                      go_roundw
                      case rel => exact ⟨i + 1, j, k + 1, _, by omega, by omega, by omega, by omega, by go_num, rfl, by go_num, (hA.other (by simpa using hgab) _).drewN _, (hB.set k vi).drewN _, HN.out, (hO.setP HPr.out k _).drewN _⟩
                      case measure => simp [intOf]; omega
                    · have HN : Hid (Inn A B1 (B2.set k vj) n lo mid n i (j + 1) (k + 1)) := by
                        have := inn_right HIn.out HA.out.1 hi1 hj1 (by omega) hk (by omega) (by omega) (.inr (by rw [HVi.out, HVj.out]; omega))
                        rwa [HVj.out] at this
                      go_wp2
                      go_quiet (fail)
                      go_wp2
                      go_roundw
                      case rel => exact ⟨i, j + 1, k + 1, _, by omega, by omega, by omega, by omega, rfl, by go_num, by go_num, (hA.other (by simpa using hgab) _).drewN _, (hB.set k vj).drewN _, HN.out, (hO.setP HPr.out k _).drewN _⟩
                      case measure => simp [intOf]; omega
                · have g1 : decide (i < mid) = false := by simp; omega
                  obtain ⟨vj, HVj⟩ := named (A.getD j 0)
                  have cj := hA.cell j (by rw [HA.out.1]; omega)
                  rw [HVj.out] at cj
                  have HN : Hid (Inn A B1 (B2.set k vj) n lo mid n i (j + 1) (k + 1)) := by
                    have := inn_right HIn.out HA.out.1 hi1 hj1 (by omega) hk (by omega) (by omega) (.inl (by omega))
                    rwa [HVj.out] at this
                  go_wp2
                  go_quiet (fail)
                  go_wp2
                  go_roundw
                  case rel => exact ⟨i, j + 1, k + 1, _, by omega, by omega, by omega, by omega, rfl, by go_num, by go_num, (hA.other (by simpa using hgab) _).drewN _, (hB.set k vj).drewN _, HN.out, (hO.setP HPr.out k _).drewN _⟩
                  case measure => simp [intOf]; omega
              · have HN : Hid (Mid A B2 wd (t + 1)) := by
                  have h := HIn.out
                  rw [show i = mid from by omega, show j = n from by omega, show k = n from by omega] at h
                  exact inn_end h HA.out.1 HM.out.2.1 HM.out.2.2 HM.out.1 hln (by omega) (by omega) hw1
                go_wp2
                go_roundw
                case rel => exact ⟨t + 1, lo + 2 * wd, B2, by rw [HM.out.1]; exact (Nat.succ_mul t (2 * wd)).symm, by omega, by go_num, hA, hB, HIn.out.len, HN.out, hO⟩
                case measure => simp [intOf]; omega
          · have d1 : decide ((n : Int) < (lo : Int) + (wd : Int)) = true := by simp; omega
            have d2 : decide ((n : Int) < (lo : Int) + 2 * (wd : Int)) = true := by simp; omega
            obtain ⟨r1, r2⟩ := runs_two (mid := n) (hi := n) HA.out.2.1 HM.out.1 (by rw [HA.out.1]; omega) (by rw [HA.out.1]; omega)
            have HR : Hid _ := And.intro r1 r2
            clear r1 r2
            go_wp2
            obtain ⟨wi, rfl⟩ : ∃ wi : World, wi = wr := ⟨_, rfl⟩
            go_loopw [9, 10, 11] (fun si sj sk wr => ∃ (i j k : Nat) (B2 : List Int), lo ≤ i ∧ i ≤ n ∧ n ≤ j ∧ j ≤ n ∧ si = .int .i64 i ∧ sj = .int .i64 j ∧ sk = .int .i64 k ∧ IRow wr ga A ∧ IRow wr gb B2 ∧ Inn A B1 B2 n lo n n i j k ∧ Only w0 wr g w.heap.size)
              (fun _ _ sk _ => n - (intOf sk).toNat)
            case atStart => exact ⟨lo, n, lo, B1, Nat.le_refl _, by omega, Nat.le_refl _, by omega, rfl, by go_num, rfl, hA, hB, inn_start HM.out.2.1 HR.out.1 HR.out.2, hO⟩
            case round =>
              clear hA hB hO
              obtain ⟨i, j, k, B2, hi1, hi2, hj1, hj2, rfl, rfl, rfl, hA, hB, hinn, hO⟩ := hrel
              have HIn : Hid (Inn A B1 B2 n lo n n i j k) := hinn
              have hs1 : k + n ≤ i + j := Nat.le_of_eq hinn.sum
              have hs2 : i + j ≤ k + n := Nat.le_of_eq hinn.sum.symm
              clear hinn
              by_cases hk : k < n
              · have kb := hB.cell k (by rw [HIn.out.len]; omega)
                have kf := hB.frozen k
                by_cases h1 : i < n
                · obtain ⟨vi, HVi⟩ := named (A.getD i 0)
                  have ci := hA.cell i (by rw [HA.out.1]; omega)
                  rw [HVi.out] at ci
                  have g1 : decide (i < n) = true := by simp; omega
                  by_cases h2 : n ≤ j
                  · have HN : Hid (Inn A B1 (B2.set k vi) n lo n n (i + 1) j (k + 1)) := by
                      have := inn_left HIn.out HA.out.1 hi1 h1 hj1 hk (by omega) (by omega) (.inl h2)
                      rwa [HVi.out] at this
                    have g2 : decide (n ≤ j) = true := by simp; omega
                    go_wp2
                    go_quiet (fail)
                    go_wp2
                    go_roundw
                    case rel => exact ⟨i + 1, j, k + 1, _, by omega, by omega, by omega, by omega, by go_num, rfl, by go_num, (hA.other (by simpa using hgab) _).drewN _, (hB.set k vi).drewN _, HN.out, (hO.setP HPr.out k _).drewN _⟩
                    case measure => simp [intOf]; omega
                  · exfalso; omega
                · exfalso; omega
              · have HN : Hid (Mid A B2 wd (t + 1)) := by
                  have h := HIn.out
                  rw [show i = n from by omega, show j = n from by omega, show k = n from by omega] at h
                  exact inn_end h HA.out.1 HM.out.2.1 HM.out.2.2 HM.out.1 hln (by omega) (by omega) hw1
                go_wp2
                go_roundw
                case rel => exact ⟨t + 1, lo + 2 * wd, B2, by rw [HM.out.1]; exact (Nat.succ_mul t (2 * wd)).symm, by omega, by go_num, hA, hB, HIn.out.len, HN.out, hO⟩
                case measure => simp [intOf]; omega
        · obtain ⟨p1, p2⟩ := mid_end HM.out.2.2 (by rw [HA.out.1, ← HM.out.1]; omega) (by rw [HM.out.2.1, HA.out.1])
          have HE : Hid _ := And.intro p1 p2
          clear p1 p2
          go_wp2
          go_roundw
          case rel => exact ⟨gb, ga, 2 * wd, B1, A, HPr.out.swap, rfl, rfl, by go_num, by omega, by omega, hB, hA, HM.out.2.1, HA.out.1, HE.out.2, HE.out.1.trans HA.out.2.2, hO⟩
          case measure => simp [intOf]; omega
    · go_wp2
      go_ret
      refine ⟨ga, A, rfl, hA, runs_whole HA.out.2.1 (by rw [HA.out.1]; omega), HA.out.2.2, ⟨hO.os.trans hgrow0.os, hO.tape.trans hgrow0.tape, hO.output.trans hgrow0.output, by rw [hO.size]; exact hgrow0.size, fun k hk hkg => ?_⟩, ?_⟩
      · rw [hO.block k (fun e => hkg (by rw [e])) (by omega)]
        exact hgrow0.block k hk (by simp)
      · rcases HPr.out with ⟨e, _⟩ | ⟨e, _⟩
        · exact .inl e
        · exact .inr (Nat.le_of_eq e.symm)

end Go.Proofs.Qxb6630433a
