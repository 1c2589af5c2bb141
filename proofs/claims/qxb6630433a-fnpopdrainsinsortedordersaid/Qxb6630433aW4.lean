import Derived.Test.Qxb6630433aW3
import Derived.Deep.RegionWith
namespace Go.Proofs.Qxb6630433a
open Go.RowKit

set_option maxRecDepth 10000 in
set_option maxHeartbeats 1000000 in
/-- 'sortInts' of nil: nil. -/
theorem f11_nil (w : World) : Calls Try.prog 11 #[.slice none 0 0] w fun e w' => e = .returned (.slice none 0 0) ∧ Below w.heap.size w w' := by
  obtain ⟨i0, hi, hz0, hz1, hz2⟩ := info_parts Try.info3
  go_enter Try.func11, Try.ntmps11
  go_wp2_with (at_make; refine wpList_make_full _ rfl _ _ 22 rfl w.heap.size 3 i0 (.int .i64 0) 1 Try.underlying22 hi hz0 hz1 _ _ _ _ 0 rfl rfl rfl rfl (by rw [hz2]; omega) (by unfold maxLen; omega) (Nat.le_refl _) ?_; intro w0 hown0 hgrow0)
  have hB0 : Below w.heap.size w w0 := (Below.refl _ _).grown hgrow0 (Nat.le_refl _) (fun k h => by cases h)
  clear hown0 hgrow0
  go_loopw [0, 4, 5] (fun s _ i wr => s = .slice none 0 0 ∧ i = .int .i64 1 ∧ wr = w0) (fun _ _ i _ => 1)
  case atStart => exact ⟨rfl, rfl, rfl⟩
  case round =>
    obtain ⟨rfl, rfl, rfl⟩ := hrel
    go_wp2
    go_ret
    exact ⟨rfl, hB0⟩

open Plain in
set_option maxRecDepth 10000 in
set_option maxHeartbeats 2000000 in
theorem law4_nil (w : World) :
    Calls Try.prog 4 #[.slice none 0 0] w fun e w' => e = .returned (.bool true) ∧ Below w.heap.size w w' := by
  go_enter Try.func4, Try.ntmps4
  go_wp2_with fail
  refine (z12 none 0 0 w (by omega)).mono ?_
  rintro e w' ⟨rfl, rfl⟩
  go_wp2_with fail
  refine (f6_any none 0 0 [] w' rfl (by omega) (fun i h => by simp at h)).mono ?_
  rintro e w1 ⟨hsays, hB1⟩
  rcases hsays with ⟨rfl, _⟩ | ⟨rfl, _⟩
  rotate_left
  · go_wp2_with fail
    go_ret
    exact ⟨rfl, hB1⟩
  go_wp2_with fail
  refine (f7_nil w1).mono ?_
  rintro e w2 ⟨rfl, rfl⟩
  go_wp2_with fail
  refine (f7_nil w2).mono ?_
  rintro e w3 ⟨rfl, rfl⟩
  go_wp2_with fail
  refine (f8_box none 0 0 w3).mono ?_
  rintro e w4 ⟨rfl, hbox4, hB4⟩
  go_wp2_with fail
  refine (f7_nil w4).mono ?_
  rintro e w5 ⟨rfl, rfl⟩
  go_wp2_with fail
  refine (f11_nil w5).mono ?_
  rintro e w6 ⟨rfl, hB6⟩
  have hbox6 := hbox4.below hB6
  have hB16 : Below w'.heap.size w' w6 := by
    have := hB1.trans (hB4.mono hB1.size)
    exact this.trans (hB6.mono this.size)
  clear hB1 hB4 hB6 hbox4
  go_wp2_with fail
  go_loopw [5] (fun i wr => i = .int .i64 0 ∧ wr = w6) (fun i _ => 1)
  case atStart => exact ⟨rfl, rfl⟩
  case round =>
    obtain ⟨rfl, rfl⟩ := hrel
    go_wp2_with fail
    refine (f10_any _ none 0 0 _ hbox6.cell).mono ?_
    rintro e w7 ⟨rfl, rfl⟩
    go_wp2_with fail
    go_ret
    exact ⟨rfl, hB16⟩

open Plain in
theorem drain_step {W T T' : List Int} {k q m : Nat} {x : Int} (hq : q = m + 1) (hs : Srt (W.drop k)) (hp : (W.drop k).Perm (T.take q)) (hh : Hp (T.take q)) (hx : T.getD 0 0 = x) (h : (x :: T'.take m).Perm (T.take (m + 1))) :
    W.getD k 0 = x ∧ Srt (W.drop (k + 1)) ∧ (W.drop (k + 1)).Perm (T'.take m) := by
  subst hq
  obtain ⟨V, e, e1, e2⟩ := srt_min hs hp h (fun y hy => by
    have := hp_min hh y hy
    rwa [getD_take _ _ _ (by omega), hx] at this)
  have e3 : W.drop (k + 1) = V := by
    have : (W.drop k).drop 1 = V := by rw [e]; rfl
    rwa [List.drop_drop] at this
  have e4 : W.getD k 0 = x := by
    have : (W.drop k)[0]? = some x := by rw [e]; rfl
    rw [List.getElem?_drop] at this
    simp only [Nat.add_zero] at this
    simp [this]
  exact ⟨e4, e3 ▸ e1, e3 ▸ e2⟩

open Plain in
set_option maxRecDepth 10000 in
set_option maxHeartbeats 2000000 in
theorem law4 (ad : Addr) (n c : Nat) (L : List Int) (w : World) (hL : L.length = n) (hl : LiesI w (some ad) L) :
    Calls Try.prog 4 #[.slice (some ad) n c] w fun e w' => e = .returned (.bool true) ∧ Below w.heap.size w w' := by
  by_cases hn0 : n ≤ 1048576
  rotate_left
  · go_enter Try.func4, Try.ntmps4
    go_wp2_with fail
    refine (z12_not (some ad) n c w hn0).mono ?_
    rintro e w' ⟨rfl, rfl⟩
    go_wp2_with fail
    go_ret
    exact ⟨rfl, Below.refl _ _⟩
  have HL : Hid (L.length = n) := hL
  clear hL
  go_enter Try.func4, Try.ntmps4
  go_wp2_with fail
  refine (z12 (some ad) n c w hn0).mono ?_
  rintro e w' ⟨rfl, rfl⟩
  by_cases hn : n ≤ 65536
  rotate_left
  · go_wp2_with fail
    go_ret
    exact ⟨rfl, Below.refl _ _⟩
  go_wp2_with fail
  refine (f6_any (some ad) n c L w' HL.out (by omega) hl).mono ?_
  rintro e w1 ⟨hsays, hB1⟩
  rcases hsays with ⟨rfl, hp⟩ | ⟨rfl, _⟩
  rotate_left
  · go_wp2_with fail
    go_ret
    exact ⟨rfl, hB1⟩
  have HP : Hid (Hp L) := hp
  clear hp
  have hl1 := hl.below hB1
  go_wp2_with fail
  refine (f7_any ad n c L w1 HL.out (by omega) hl1).mono ?_
  rintro e w2 ⟨rfl, hI2, hB2⟩
  have hs2 := hI2.lt
  go_wp2_with fail
  refine (f7_any ⟨w1.heap.size, 0, none⟩ n n L w2 HL.out (by omega) hI2.lies).mono ?_
  rintro e w3 ⟨rfl, hH3, hB3⟩
  have hs3 := hH3.lt
  have hI3 := hI2.below hB3
  go_wp2_with fail
  refine (f8_box (some ⟨w2.heap.size, 0, none⟩) n n w3).mono ?_
  rintro e w4 ⟨rfl, hbox4, hB4⟩
  have hs4 := hbox4.lt
  have hI4 := hI3.below hB4
  have hH4 := hH3.below hB4
  go_wp2_with fail
  refine (f7_any ⟨w1.heap.size, 0, none⟩ n n L w4 HL.out (by omega) hI4.lies).mono ?_
  rintro e w5 ⟨rfl, hC5, hB5⟩
  have hs5 := hC5.lt
  have hbox5 := hbox4.below hB5
  have hH5 := hH4.below hB5
  have hB12 : Below w'.heap.size w' w2 := hB1.trans (hB2.mono hB1.size)
  have hB13 : Below w'.heap.size w' w3 := hB12.trans (hB3.mono hB12.size)
  have hB14 : Below w'.heap.size w' w4 := hB13.trans (hB4.mono hB13.size)
  have hB15 : Below w'.heap.size w' w5 := hB14.trans (hB5.mono hB14.size)
  have hz1 := hB1.size
  have hz12 := hB12.size
  have hz13 := hB13.size
  have hz14 := hB14.size
  have hz15 := hB15.size
  clear hB1 hB2 hB3 hB4 hB5 hB12 hB13 hB14 hbox4 hI2 hI3 hI4 hH3 hH4 hl hl1
  go_wp2_with fail
  refine (sort_any w4.heap.size n L w5 HL.out (by omega) hC5).mono ?_
  rintro e w6 ⟨gw, W, rfl, hW6, hWs, hWp, hG6, hgw⟩
  have hH6 := hH5.grown hG6 (by simp; omega)
  have hbox6 := hbox5.grown hG6 (by simp; omega)
  have hB6 : Below w'.heap.size w' w6 := hB15.grown hG6 hB15.size (fun k h => by cases h; omega)
  have HW : Hid (W.length = n ∧ Srt W ∧ W.Perm L) := ⟨by rw [hWp.length_eq, HL.out], hWs, hWp⟩
  have hd1 : gw ≠ w3.heap.size := by omega
  have hd2 : gw ≠ w2.heap.size := by omega
  have hd3 : w3.heap.size ≠ w2.heap.size := by omega
  have hd4 : w'.heap.size ≤ w3.heap.size := hz13
  have hd5 : w'.heap.size ≤ w2.heap.size := hz12
  clear hG6 hC5 hH5 hbox5 hB15 hWs hWp hgw hs2 hs3 hs4 hs5 hz1 hz12 hz13 hz14 hz15
  obtain ⟨gh, Hgh⟩ := named w3.heap.size
  obtain ⟨g, Hg⟩ := named w2.heap.size
  rw [Hgh.out] at hd1 hd3 hd4 hbox6 ⊢
  rw [Hg.out] at hd2 hd3 hd5 hbox6 hH6
  go_wp2_with fail
  go_loopw [5] (fun si wr => ∃ (k q : Nat) (T : List Int), k + q = n ∧ si = .int .i64 k ∧ IRow wr g T ∧ T.length = n ∧ Box wr gh (.slice (some ⟨g, 0, none⟩) q n) ∧ Hp (T.take q) ∧ Srt (W.drop k) ∧ (W.drop k).Perm (T.take q) ∧ IRow wr gw W ∧ Below w'.heap.size w' wr) (fun si _ => n - (intOf si).toNat)
  case atStart =>
    refine ⟨0, n, L, by omega, rfl, hH6, HL.out, hbox6, ?_, HW.out.2.1, ?_, hW6, hB6⟩
    · rw [List.take_of_length_le (by rw [HL.out]; omega)]; exact HP.out
    · rw [List.take_of_length_le (by rw [HL.out]; omega)]; exact HW.out.2.2
  case round =>
    clear hH6 hbox6 hW6 hB6
    obtain ⟨k, q, T, hkq, rfl, hT, hTl, hbox, hp, hs, hpm, hW, hB⟩ := hrel
    have HT : Hid (T.length = n ∧ Hp (T.take q) ∧ Srt (W.drop k) ∧ (W.drop k).Perm (T.take q)) := ⟨hTl, hp, hs, hpm⟩
    clear hTl hp hs hpm
    by_cases hlt : k < n
    · obtain ⟨m, Hqm⟩ : ∃ m, Hid (q = m + 1) := ⟨q - 1, (show q = q - 1 + 1 by omega)⟩
      obtain ⟨x, HX⟩ := named (T.getD 0 0)
      have hWk : Hid (W.getD k 0 = x) := (drain_step (T' := T.tail) Hqm.out HT.out.2.2.1 HT.out.2.2.2 HT.out.2.1 HX.out (by
        have hl : T.length = n := HT.out.1
        have hx : T.getD 0 0 = x := HX.out
        cases T with
        | nil => simp at hl; omega
        | cons t T1 =>
          simp at hx
          subst hx
          simp)).1
      have c0 := hW.cell k (by rw [HW.out.1]; omega)
      rw [hWk.out] at c0
      have c1 : wr.drew.cell? ⟨gw, k, none⟩ = some (.int .i64 x) := c0
      go_wp2
      go_region_with (go_at_call 9; refine (pop_n gh g q m n T x _ Hqm.out hd3 ?_ ?_ HT.out.1 (by omega) (by omega) HT.out.2.1 HX.out).mono ?_; exact hbox; exact hT; rintro e w7 ⟨rfl, T', hbox7, hH7, hTl7, hp7, hperm7, hO7⟩; have c7 := (hO7.row hd1 hd2 hW).cell k (by rw [HW.out.1]; omega); rw [hWk.out] at c7; have HT7 : Hid (T'.length = n ∧ Hp (T'.take m) ∧ (T.getD 0 0 :: T'.take m).Perm (T.take (m + 1))) := ⟨hTl7, hp7, hperm7⟩; clear hTl7 hp7 hperm7)
      all_goals
        go_wp2
        go_roundw
        case rel =>
          have hq := Hqm.out
          have hst := drain_step Hqm.out HT.out.2.2.1 HT.out.2.2.2 HT.out.2.1 HX.out (by rw [← HX.out]; exact HT7.out.2.2)
          exact ⟨k + 1, m, T', by omega, by go_num, hH7, HT7.out.1, hbox7, HT7.out.2.1, hst.2.1, hst.2.2, hO7.row hd1 hd2 hW, hB.trans ((below_drewN (Below.refl _ _) 1).trans (hO7.below hd4 hd5))⟩
        case measure => simp [intOf]; omega
    · obtain rfl : q = 0 := by omega
      go_wp2_with fail
      refine (f10_any _ _ _ _ _ hbox.cell).mono ?_
      rintro e w7 ⟨rfl, rfl⟩
      go_wp2_with fail
      go_ret
      exact ⟨rfl, hB⟩

end Go.Proofs.Qxb6630433a
