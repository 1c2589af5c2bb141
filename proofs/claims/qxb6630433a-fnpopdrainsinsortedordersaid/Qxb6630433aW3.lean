import Derived.Test.Qxb6630433aSort
namespace Go.Proofs.Qxb6630433a
open Go.RowKit

theorem f8_box (v : Option Addr) (n c : Nat) (w : World) : Calls Try.prog 8 #[.slice v n c] w fun e w' => e = .returned (.pointer (some ⟨w.heap.size, 0, none⟩)) ∧ Box w' w.heap.size (.slice v n c) ∧ Below w.heap.size w w' := by
  refine (f8_any v n c w).mono ?_
  rintro e w' ⟨rfl, rfl⟩
  refine ⟨rfl, ?_, (Below.refl _ _).alloc (Nat.le_refl _) _⟩
  unfold Box
  show (w.heap.push _)[w.heap.size]? = _
  simp

open Plain in
/-- 'Pop' of a heap that is not empty. -/
theorem pop_any (gh g m cap : Nat) (T : List Int) (x : Int) (w : World) (hne : gh ≠ g) (hbox : Box w gh (.slice (some ⟨g, 0, none⟩) (m + 1) cap)) (hT : IRow w g T) (hTl : T.length = cap) (hc : m + 1 ≤ cap) (hc2 : cap ≤ 1048576) (hp : Hp (T.take (m + 1))) (hx : T.getD 0 0 = x) :
    Calls Try.prog 9 #[.pointer (some ⟨gh, 0, none⟩)] w fun e w' => e = .returned (.int .i64 x) ∧ Popped w w' gh g m cap T := by
  subst hx
  by_cases hm : 1 ≤ m
  · exact pop_many gh g m cap T w hne hm hbox hT hTl hc hc2 hp
  · obtain rfl : m = 0 := by omega
    exact pop_one gh g cap T w hne hbox hT hTl hc hc2

open Plain in
theorem pop_n (gh g n m cap : Nat) (T : List Int) (x : Int) (w : World) (hnm : n = m + 1) (hne : gh ≠ g) (hbox : Box w gh (.slice (some ⟨g, 0, none⟩) n cap)) (hT : IRow w g T) (hTl : T.length = cap) (hc : n ≤ cap) (hc2 : cap ≤ 1048576) (hp : Hp (T.take n)) (hx : T.getD 0 0 = x) :
    Calls Try.prog 9 #[.pointer (some ⟨gh, 0, none⟩)] w fun e w' => e = .returned (.int .i64 x) ∧ Popped w w' gh g m cap T := by
  subst hnm
  exact pop_any gh g m cap T x w hne hbox hT hTl hc hc2 hp hx

theorem getD_of {W : List Int} {s : Int} {V : List Int} (h : W = s :: V) : W.getD 0 0 = s ∧ ∀ i, W.getD (i + 1) 0 = V.getD i 0 := by
  subst h
  exact ⟨rfl, fun i => rfl⟩

open Plain in
set_option maxRecDepth 10000 in
set_option maxHeartbeats 2000000 in
theorem law3 (ad : Addr) (n c : Nat) (L : List Int) (w : World) (hL : L.length = n) (hn1 : 1 ≤ n) (hl : LiesI w (some ad) L) :
    Calls Try.prog 3 #[.slice (some ad) n c] w fun e w' => e = .returned (.bool true) ∧ Below w.heap.size w w' := by
  by_cases hn0 : n ≤ 1048576
  rotate_left
  · go_enter Try.func3, Try.ntmps3
    go_wp2_with fail
    refine (z5_not (some ad) n c w hn0).mono ?_
    rintro e w' ⟨rfl, rfl⟩
    go_wp2_with fail
    go_ret
    exact ⟨rfl, Below.refl _ _⟩
  have HL : Hid (L.length = n) := hL
  clear hL
  go_enter Try.func3, Try.ntmps3
  go_wp2_with fail
  refine (z5 (some ad) n c w hn0).mono ?_
  rintro e w' ⟨rfl, rfl⟩
  by_cases hn : n ≤ 65536
  rotate_left
  · go_wp2_with fail
    go_ret
    exact ⟨rfl, Below.refl _ _⟩
  have hnz : ((n : Int) == 0) = false := by rw [beq_eq_false_iff_ne]; omega
  go_wp2_with fail
  refine (f6_any (some ad) n c L w' HL.out (by omega) hl).mono ?_
  rintro e w1 ⟨hsays, hB1⟩
  rcases hsays with ⟨rfl, hp⟩ | ⟨rfl, _⟩
  rotate_left
  · go_wp2_with fail
    go_ret
    exact ⟨rfl, hB1⟩
  have HP : Hid (Hp L) := hp
  clear hp
  obtain ⟨s0, HS⟩ := named (L.getD 0 0)
  have hl1 := hl.below hB1
  go_wp2_with fail
  refine (f7_any ad n c L w1 HL.out (by omega) hl1).mono ?_
  rintro e w2 ⟨rfl, hI2, hB2⟩
  have hs2 := hI2.lt
  go_wp2_with fail
  refine (f7_any ⟨w1.heap.size, 0, none⟩ n n L w2 HL.out (by omega) hI2.lies).mono ?_
  rintro e w3 ⟨rfl, hH3, hB3⟩
  have hs3 := hH3.lt
  have hI3 := hI2.below hB3
  go_wp2_with fail
  refine (f8_box (some ⟨w2.heap.size, 0, none⟩) n n w3).mono ?_
  rintro e w4 ⟨rfl, hbox4, hB4⟩
  have hs4 := hbox4.lt
  have hI4 := hI3.below hB4
  have hH4 := hH3.below hB4
  go_wp2_with fail
  obtain ⟨m, Hnm⟩ : ∃ m, Hid (n = m + 1) := ⟨n - 1, (show n = n - 1 + 1 by omega)⟩
  have hm1 : m ≤ n := by have := Hnm.out; omega
  have hml : ((m : Int) != (n : Int) - 1) = false := by have := Hnm.out; rw [bne_eq_false_iff_eq]; omega
  refine (pop_n w3.heap.size w2.heap.size n m n L s0 w4 Hnm.out (by omega) hbox4 hH4 HL.out (Nat.le_refl _) (by omega) (by rw [List.take_of_length_le (by rw [HL.out]; omega)]; exact HP.out) HS.out).mono ?_
  rintro e w5 ⟨rfl, T', hbox5, hH5, hTl, hp5, hperm5, hO5⟩
  have hI5 := hO5.row (by omega) (by omega) hI4
  have HT : Hid (T'.length = n ∧ Hp (T'.take m) ∧ (s0 :: T'.take m).Perm L) := ⟨hTl, hp5, by have := Hnm.out; rw [HS.out, List.take_of_length_le (l := L) (by rw [HL.out]; omega)] at hperm5; exact hperm5⟩
  clear hTl hp5 hperm5
  have hB12 : Below w'.heap.size w' w2 := hB1.trans (hB2.mono hB1.size)
  have hB13 : Below w'.heap.size w' w3 := hB12.trans (hB3.mono hB12.size)
  have hB14 : Below w'.heap.size w' w4 := hB13.trans (hB4.mono hB13.size)
  have hz1 := hB1.size
  have hz12 := hB12.size
  have hz13 := hB13.size
  have hz14 := hB14.size
  have hB5 : Below w'.heap.size w' w5 := hB14.trans (hO5.below (by omega) (by omega))
  have hsz5 := hO5.size
  have hsz5' : w4.heap.size ≤ w5.heap.size := Nat.le_of_eq hsz5.symm
  clear hB1 hB2 hB3 hB4 hB12 hB13 hB14 hO5 hbox4 hI2 hI3 hI4 hH3 hH4 hl hl1 hsz5
  go_wp2_with fail
  refine (f10_any w3.heap.size (some ⟨w2.heap.size, 0, none⟩) m n w5 hbox5.cell).mono ?_
  rintro e w6 ⟨rfl, rfl⟩
  have i0 := hI5.cell 0 (by rw [HL.out]; omega)
  rw [HS.out] at i0
  go_wp2_with fail
  go_loop [6, 7] (fun sm si => ∃ k : Nat, 1 ≤ k ∧ k ≤ n ∧ sm = .int .i64 s0 ∧ si = .int .i64 k) (fun _ si => n - (intOf si).toNat)
  case atStart => exact ⟨1, Nat.le_refl _, hn1, rfl, rfl⟩
  case round =>
    obtain ⟨k, hk1, hk2, rfl, rfl⟩ := hrel
    by_cases hlt : k < n
    · obtain ⟨x, HX⟩ := named (L.getD k 0)
      have ik := hI5.cell k (by rw [HL.out]; omega)
      rw [HX.out] at ik
      have hge : s0 ≤ x := by rw [← HS.out, ← HX.out]; exact hp_root HP.out k (by rw [HL.out]; omega)
      go_wp2
      go_round
      case rel => exact ⟨k + 1, by omega, by omega, rfl, by go_num⟩
      case measure => simp [intOf]; omega
    · clear i0
      go_wp2_with fail
      refine (f6_any (some ⟨w2.heap.size, 0, none⟩) m n (T'.take m) w6 (by rw [List.length_take, HT.out.1]; omega) (by omega) (hH5.lies.take m)).mono ?_
      rintro e w7 ⟨hsays, hB7⟩
      rcases hsays with ⟨rfl, _⟩ | ⟨rfl, hbad⟩
      rotate_left
      · exact absurd HT.out.2.1 hbad
      have hI7 := hI5.below hB7
      have hH7 := hH5.below hB7
      have hz7 := hB7.size
      have hB7' : Below w'.heap.size w' w7 := hB5.trans (hB7.mono hB5.size)
      clear hI5 hH5 hB7 hB5 hbox5
      go_wp2_with fail
      refine (f7_any ⟨w1.heap.size, 0, none⟩ n n L w7 HL.out (by omega) hI7.lies).mono ?_
      rintro e w8 ⟨rfl, hC8, hB8⟩
      have hs8 := hC8.lt
      have hH8 := hH7.below hB8
      have hB8' : Below w'.heap.size w' w8 := hB7'.trans (hB8.mono hB7'.size)
      have hz8 := hB8'.size
      clear hI7 hH7 hB8 hB7'
      go_wp2_with fail
      refine (sort_any w7.heap.size n L w8 HL.out (by omega) hC8).mono ?_
      rintro e w9 ⟨g9, W, rfl, hW9, hWs, hWp, hG9, hg9⟩
      have hs9 := hW9.lt
      have hH9 := hH8.grown hG9 (by simp; omega)
      have hsz9 := hG9.size
      have hB9' : Below w'.heap.size w' w9 := hB8'.grown hG9 hB8'.size (fun k h => by cases h; omega)
      clear hG9 hC8 hH8 hB8'
      go_wp2_with fail
      refine (f7_any ⟨w2.heap.size, 0, none⟩ m n (T'.take m) w9 (by rw [List.length_take, HT.out.1]; omega) (by omega) (hH9.lies.take m)).mono ?_
      rintro e wa ⟨rfl, hCa, hBa⟩
      have hsa := hCa.lt
      have hWa := hW9.below hBa
      have hBa' : Below w'.heap.size w' wa := hB9'.trans (hBa.mono hB9'.size)
      have hza := hB9'.size
      have hza' := hBa'.size
      clear hH9 hW9 hBa hB9'
      go_wp2_with fail
      refine (sort_any w9.heap.size m (T'.take m) wa (by rw [List.length_take, HT.out.1]; omega) (by omega) hCa).mono ?_
      rintro e wb ⟨gb, V, rfl, hVb, hVs, hVp, hGb, hgb⟩
      have hWb := hWa.grown hGb (by simp; omega)
      have hBb' : Below w'.heap.size w' wb := hBa'.grown hGb hBa'.size (fun k h => by cases h; omega)
      have hWV : W = s0 :: V := by
        obtain ⟨V', e, e1, e2⟩ := srt_min hWs hWp HT.out.2.2 (fun x hx => by rw [← HS.out]; exact hp_min HP.out x hx)
        rw [e, srt_unique e1 hVs (e2.trans hVp.symm)]
      have HW : Hid (W.length = n ∧ V.length = m ∧ W.getD 0 0 = s0 ∧ ∀ i, W.getD (i + 1) 0 = V.getD i 0) := by
        refine ⟨?_, ?_, (getD_of hWV).1, (getD_of hWV).2⟩
        · rw [hWp.length_eq, HL.out]
        · rw [hVp.length_eq, List.length_take, HT.out.1]; omega
      clear hWV hWs hWp hVs hVp hGb hgb hWa hCa hBa' hg9
      have w0' := hWb.cell 0 (by rw [HW.out.1]; omega)
      rw [HW.out.2.2.1] at w0'
      go_wp2_with fail
      go_loopw [10] (fun si wr => ∃ k : Nat, k ≤ m ∧ si = .int .i64 k ∧ Below wb.heap.size wb wr) (fun si _ => m - (intOf si).toNat)
      case atStart => exact ⟨0, Nat.zero_le _, rfl, Below.refl _ _⟩
      case round =>
        obtain ⟨k, hk, rfl, hB⟩ := hrel
        by_cases hlt : k < m
        · have hnm' : k + 1 < n := by have := Hnm.out; omega
          obtain ⟨x, HX⟩ := named (V.getD k 0)
          have vk := (hVb.below hB).cell k (by rw [HW.out.2.1]; omega)
          have wk := (hWb.below hB).cell (k + 1) (by rw [HW.out.1]; omega)
          rw [HW.out.2.2.2 k, HX.out] at wk
          rw [HX.out] at vk
          go_wp2
          go_quiet (fail)
          go_wp2
          go_roundw
          case rel => exact ⟨k + 1, by omega, by go_num, below_drewN hB _⟩
          case measure => simp [intOf]; omega
        · go_wp2
          go_ret
          exact ⟨rfl, hBb'.trans (hB.mono hBb'.size)⟩

end Go.Proofs.Qxb6630433a
