import Derived.Test.Qxb6630387aW9
namespace Go.Proofs.Qxb6630387a
open Go.RowKit

open Plain in
theorem p_yes (g n : Nat) (L : List Int) (x : Int) (w : World) (hL : L.length = n) (hn : n ≤ 1000) (h : BRow w g L) (hb : ∀ x ∈ L, 0 ≤ x ∧ x ≤ 255) (hp : parse L = some x) :
    Calls Try.prog 6 #[.slice (some ⟨g, 0, none⟩) n n] w fun e w' => e = .returned (.tuple #[.int .i64 x, .bool true]) ∧ Below w.heap.size w w' := by
  refine (p_any _ n n L w hL (Nat.le_refl _) (by omega) (h.lies hb)).mono ?_
  rintro e w' ⟨rfl, q, rfl⟩
  exact ⟨by rw [hp]; rfl, below_drewN (Below.refl _ _) q⟩
open Plain in
theorem p_no (g n : Nat) (L : List Int) (w : World) (hL : L.length = n) (hn : n ≤ 1000) (h : BRow w g L) (hb : ∀ x ∈ L, 0 ≤ x ∧ x ≤ 255) (hp : parse L = none) :
    Calls Try.prog 6 #[.slice (some ⟨g, 0, none⟩) n n] w fun e w' => e = .returned (.tuple #[.int .i64 0, .bool false]) ∧ Below w.heap.size w w' := by
  refine (p_any _ n n L w hL (Nat.le_refl _) (by omega) (h.lies hb)).mono ?_
  rintro e w' ⟨rfl, q, rfl⟩
  exact ⟨by rw [hp]; rfl, below_drewN (Below.refl _ _) q⟩

open Plain in
theorem f8_n (v : Int) (w : World) (h : InRange v) (n : Nat) (hn : (spellL v).length = n) : Calls Try.prog 8 #[.int .i64 v] w fun e w' =>
    ∃ T : List Int, e = .returned (.tuple #[.agg (arr T), .int .i64 n]) ∧ T.length = 20 ∧ T.take n = spellL v ∧ n ≤ 20 ∧ Below w.heap.size w w' := by
  subst hn
  exact f8_any v w h

open Plain in
theorem spell_bytes (v : Int) : ∀ x ∈ spellL v, 0 ≤ x ∧ x ≤ 255 := by
  intro x hx
  unfold spellL at hx
  split at hx
  · simp at hx
    rcases hx with rfl | hx
    · omega
    · have := dec_digits _ x hx; omega
  · have := dec_digits _ x hx; omega
open Plain in
theorem spell_len_pos (v : Int) : 1 ≤ (spellL v).length := by
  unfold spellL
  have := dec_pos v.natAbs
  split
  · simp
  · omega

theorem heap_zero (w : World) : (w.alloc (.cells #[.int .u8 0, .int .u8 0, .int .u8 0, .int .u8 0, .int .u8 0, .int .u8 0, .int .u8 0, .int .u8 0, .int .u8 0, .int .u8 0, .int .u8 0, .int .u8 0, .int .u8 0, .int .u8 0, .int .u8 0, .int .u8 0, .int .u8 0, .int .u8 0, .int .u8 0, .int .u8 0] 26)).heap[w.heap.size]? = some (.cells (arr zeros) 26 (0, 0)) := by
  rw [arr_zeros]
  show (w.heap.push _)[w.heap.size]? = _
  simp

/-- The array that 'spell' gave, laid into a new variable. -/
theorem laid_row (w : World) (T : List Int) (hT : T.length = 20) : Row ((w.alloc (.cells (arr zeros) 26)).setRow w.heap.size (arr T)) w.heap.size T ∧ Below w.heap.size w ((w.alloc (.cells (arr zeros) 26)).setRow w.heap.size (arr T)) ∧ ((w.alloc (.cells (arr zeros) 26)).setRow w.heap.size (arr T)).heap.size = w.heap.size + 1 :=
  ⟨(Row.new w zeros rfl).setRow hT, below_setRow' ((Below.refl _ _).alloc (Nat.le_refl _) _) (Nat.le_refl _) _, by simp [World.setRow]⟩

theorem take_step {T L : List Int} {j : Nat} (hj : j < L.length) (hjT : j < T.length) (h : T.take j = L.take j) : (T.set j (L.getD j 0)).take (j + 1) = L.take (j + 1) := by
  rw [List.take_succ_eq_append_getElem (by simpa using hjT), List.take_succ_eq_append_getElem hj, List.take_set_of_le (by omega), h]
  simp [hj]

theorem getD_take {T L : List Int} {n j : Nat} (h : T.take n = L) (hj : j < L.length) : T.getD j 0 = L.getD j 0 := by
  subst h
  have : j < n ∧ j < T.length := by rw [List.length_take] at hj; omega
  simp [this.1, this.2]

theorem zneg_step {Z L : List Int} {i : Nat} (hZ : Z.length = L.length + 1) (h1 : 1 ≤ i) (hi : i < L.length) (h : Z.take (i + 1) = 45 :: 48 :: (L.take i).drop 1) :
    (Z.set (i + 1) (L.getD i 0)).take (i + 1 + 1) = 45 :: 48 :: (L.take (i + 1)).drop 1 := by
  rw [List.take_succ_eq_append_getElem (by simp; omega), List.take_succ_eq_append_getElem hi, List.take_set_of_le (by omega), h, List.drop_append_of_le_length (by simp; omega)]
  simp [hi]

theorem cons_bytes {a : Int} {L : List Int} (ha : 0 ≤ a ∧ a ≤ 255) (h : ∀ x ∈ L, 0 ≤ x ∧ x ≤ 255) : ∀ x ∈ a :: L, 0 ≤ x ∧ x ≤ 255 := by
  intro x hx
  rcases List.mem_cons.1 hx with rfl | hx
  · exact ha
  · exact h x hx
theorem snoc_bytes {a : Int} {L : List Int} (ha : 0 ≤ a ∧ a ≤ 255) (h : ∀ x ∈ L, 0 ≤ x ∧ x ≤ 255) : ∀ x ∈ L ++ [a], 0 ≤ x ∧ x ≤ 255 := by
  intro x hx
  rcases List.mem_append.1 hx with hx | hx
  · exact h x hx
  · simp at hx; subst hx; exact ha

theorem sp_end {S L : List Int} {n : Nat} (hS : S.length = n + 1) (h : S.take n = L) : S.set n 32 = L ++ [32] := by
  have : (S.set n 32).take (n + 1) = S.take n ++ [32] := by
    rw [List.take_succ_eq_append_getElem (by simp; omega), List.take_set_of_le (Nat.le_refl _)]
    simp
  rw [List.take_of_length_le (by simp; omega)] at this
  rw [this, h]

open Plain in
set_option maxRecDepth 100000 in
set_option maxHeartbeats 2000000 in
theorem f4_neg (v : Int) (w : World) (h0 : v < 0) (hr : InRange v) : Calls Try.prog 4 #[.int .i64 v] w fun e w' => e = .returned (.bool true) ∧ Below w.heap.size w w' := by
  obtain ⟨i0, hi, hz0, hz1, hz2⟩ := info_parts Try.info5
  obtain ⟨n, HN⟩ := named (spellL v).length
  have hn1 : 1 ≤ n := by rw [← HN.out]; exact spell_len_pos v
  go_enter Try.func4, Try.ntmps4
  go_wp2_with fail
  refine (f8_n v w hr n HN.out).mono ?_
  rintro e w1 ⟨T, rfl, hT, htk, hn, hB1⟩
  have HT : Hid (T.length = 20 ∧ T.take n = spellL v) := ⟨hT, htk⟩
  clear hT htk
  have HZ : Hid ((Try.prog.info? 26).map (·.size) = some (arr T).size) := by rw [Hid, arr_size, HT.out.1]; exact Try.size26
  obtain ⟨hbuf, hBb, hszb⟩ := laid_row w1 T HT.out.1
  go_wp2_with (first | (refine wpList_store_row rfl 26 (.tmp 3) (.tmp 27) rfl w1.heap.size (arr T) rfl rfl 26 (arr zeros) (heap_zero w1) HZ.out (by rw [arr_size, arr_size, HT.out.1]; rfl) (arr_one T) ?_) | (at_make; refine wpList_make_full _ rfl _ _ 22 rfl 0 5 i0 (.int .u8 0) 1 Try.underlying22 hi hz0 hz1 _ _ _ _ n rfl rfl rfl rfl (by rw [hz2]; omega) (by unfold maxLen; omega) (Nat.zero_le _) ?_; intro w2 hown2 hgrow2))
  have hbuf2 : Row w2 w1.heap.size T := hbuf.of_block (hgrow2.block w1.heap.size hbuf.lt (by simp))
  have hR2 : BRow w2 ((w1.alloc (.cells (arr zeros) 26)).setRow w1.heap.size (arr T)).heap.size (List.replicate n 0) := brow_made hown2
  rw [hszb] at hR2
  have hB2 : Below w.heap.size w w2 := (hB1.trans (hBb.mono hB1.size)).grown hgrow2 (by have := hB1.size; have := hBb.size; omega) (fun k h => by cases h)
  have hz1' := hB1.size
  clear hbuf hBb hszb hown2 hgrow2 hB1
  go_loopw [6] (fun i wr => ∃ (j : Nat) (S : List Int), j ≤ n ∧ i = .int .i64 j ∧ BRow wr (w1.heap.size + 1) S ∧ Row wr w1.heap.size T ∧ S.length = n ∧ S.take j = (spellL v).take j ∧ Below w.heap.size w wr) (fun i _ => n - (intOf i).toNat)
  case atStart => exact ⟨0, _, Nat.zero_le _, rfl, hR2, hbuf2, by simp, by simp, hB2⟩
  case round =>
    clear hR2 hbuf2 hB2
    obtain ⟨j, S, hj, rfl, hS, hbuf, hSl, hSt, hB⟩ := hrel
    have HS : Hid (S.length = n ∧ S.take j = (spellL v).take j) := ⟨hSl, hSt⟩
    clear hSl hSt
    by_cases hlt : j < n
    · have b1 := hbuf.cell j (by omega)
      rw [getD_take HT.out.2 (by rw [HN.out]; omega)] at b1
      have s1 := hS.cell j (by rw [HS.out.1]; omega)
      have s2 := hS.frozen j
      go_wp2
      go_roundw
      case rel => exact ⟨j + 1, _, by omega, by go_num, hS.set j _, hbuf.other (by simp) _, by simp [HS.out.1], take_step (by rw [HN.out]; omega) (by rw [HS.out.1]; omega) HS.out.2, hB.setCell (by simp; omega) _⟩
      case measure => simp [intOf]; omega
    · obtain rfl : j = n := by omega
      have e := HS.out.2
      rw [List.take_of_length_le (by rw [HS.out.1]; omega), List.take_of_length_le (by rw [HN.out]; omega)] at e
      subst e
      clear hbuf HS
      obtain ⟨w3, rfl⟩ : ∃ w3 : World, w3 = wr := ⟨_, rfl⟩
      go_wp2_with fail
      refine (p_yes (w1.heap.size + 1) j (spellL v) v w3 HN.out (by omega) hS (spell_bytes v) (parse_spell v hr)).mono ?_
      rintro e w4 ⟨rfl, hB4⟩
      have hS4 := hS.below hB4
      have hB4' : Below w.heap.size w w4 := hB.trans (hB4.mono hB.size)
      have hsz4 := hS4.lt
      clear hS hB hB4
      go_wp2_with (at_make; refine wpList_make_full _ rfl _ _ 22 rfl 0 5 i0 (.int .u8 0) 1 Try.underlying22 hi hz0 hz1 _ _ _ _ (j + 1) rfl rfl (by omega) (by omega) (by rw [hz2]; omega) (by unfold maxLen; omega) (Nat.zero_le _) ?_; intro w5 hown5 hgrow5; have hR5 := brow_made hown5; have r1 := hR5.cell 0 (by simp); have r2 := hR5.frozen 0; have r3 := hR5.cell 1 (by simp; omega); have r4 := hR5.frozen 1)
      have hB5 : Below w4.heap.size w4 w5 := (Below.refl _ _).grown hgrow5 (Nat.le_refl _) (fun k h => by cases h)
      have hS5 := hS4.below hB5
      have hB5' : Below w.heap.size w w5 := hB4'.trans (hB5.mono hB4'.size)
      have hz4' := hB4'.size
      clear hown5 hgrow5 hB5 hS4 r1 r2 r3 r4 hB4'
      go_loopw [11] (fun i wr => ∃ (k : Nat) (Z : List Int), 1 ≤ k ∧ k ≤ j ∧ i = .int .i64 k ∧ BRow wr w4.heap.size Z ∧ BRow wr (w1.heap.size + 1) (spellL v) ∧ Z.length = j + 1 ∧ Z.take (k + 1) = 45 :: 48 :: ((spellL v).take k).drop 1 ∧ Below w.heap.size w wr) (fun i _ => j - (intOf i).toNat)
      case atStart =>
        refine ⟨1, _, by omega, by omega, rfl, (hR5.set 0 45).set 1 48, (hS5.other (by simp; omega) _).other (by simp; omega) _, by simp, ?_, (hB5'.setCell (by simp; omega) _).setCell (by simp; omega) _⟩
        obtain ⟨t, rfl⟩ : ∃ t, j = t + 1 := ⟨j - 1, by omega⟩
        have e : ((spellL v).take 1).drop 1 = [] := by rw [List.drop_eq_nil_iff]; simp; omega
        rw [e]
        simp [List.replicate_succ]
      case round =>
        clear hR5 hS5 hB5'
        obtain ⟨k, Z, hk1, hk2, rfl, hZ, hS, hZl, hZt, hB⟩ := hrel
        have HZZ : Hid (Z.length = j + 1 ∧ Z.take (k + 1) = 45 :: 48 :: ((spellL v).take k).drop 1) := ⟨hZl, hZt⟩
        clear hZl hZt
        by_cases hlt : k < j
        · have s1 := hS.cell k (by rw [HN.out]; omega)
          have z1 := hZ.cell (k + 1) (by rw [HZZ.out.1]; omega)
          have z2 := hZ.frozen (k + 1)
          go_wp2
          go_roundw
          case rel => exact ⟨k + 1, _, by omega, by omega, by go_num, hZ.set (k + 1) _, hS.other (by simp; omega) _, by simp [HZZ.out.1], zneg_step (by rw [HZZ.out.1, HN.out]) hk1 (by rw [HN.out]; omega) HZZ.out.2, hB.setCell (by simp; omega) _⟩
          case measure => simp [intOf]; omega
        · obtain rfl : k = j := by omega
          have e := HZZ.out.2
          rw [List.take_of_length_le (by rw [HZZ.out.1]; omega), List.take_of_length_le (by rw [HN.out]; omega)] at e
          have e2 : (spellL v).drop 1 = dec v.natAbs := by rw [spell_neg h0]; rfl
          rw [e2] at e
          subst e
          have HZL : Hid ((45 :: 48 :: dec v.natAbs).length = k + 1) := HZZ.out.1
          clear HZZ e2
          obtain ⟨w6, rfl⟩ : ∃ w6 : World, w6 = wr := ⟨_, rfl⟩
          go_wp2_with fail
          refine (p_no w4.heap.size (k + 1) (45 :: 48 :: dec v.natAbs) w6 HZL.out (by omega) hZ (cons_bytes (by omega) (cons_bytes (by omega) (fun x hx => by have := dec_digits _ x hx; omega))) parse_zero_neg).mono ?_
          rintro e w7 ⟨rfl, hB7⟩
          have hS7 := hS.below hB7
          have hB7' : Below w.heap.size w w7 := hB.trans (hB7.mono hB.size)
          clear hS hZ hB hB7 HZL
          go_wp2_with fail
          refine (f9_any 43 (w1.heap.size + 1) k k (spellL v) w7 HN.out (by omega) hS7).mono ?_
          rintro e w8 ⟨rfl, hP8, hB8⟩
          have hS8 := hS7.below hB8
          have hB8' : Below w.heap.size w w8 := hB7'.trans (hB8.mono hB7'.size)
          clear hS7 hB7' hB8
          go_wp2_with fail
          refine (p_no w7.heap.size (k + 1) (43 :: spellL v) w8 (by simp [HN.out]) (by omega) hP8 (cons_bytes (by omega) (spell_bytes v)) (parse_plus _)).mono ?_
          rintro e w9 ⟨rfl, hB9⟩
          have hS9 := hS8.below hB9
          have hB9' : Below w.heap.size w w9 := hB8'.trans (hB9.mono hB8'.size)
          clear hS8 hB8' hB9 hP8
          go_wp2_with fail
          refine (f9_any 45 (w1.heap.size + 1) k k (spellL v) w9 HN.out (by omega) hS9).mono ?_
          rintro e wa ⟨rfl, hPa, hBa⟩
          have hSa := hS9.below hBa
          have hBa' : Below w.heap.size w wa := hB9'.trans (hBa.mono hB9'.size)
          clear hS9 hB9' hBa
          go_wp2_with fail
          refine (p_no w9.heap.size (k + 1) (45 :: spellL v) wa (by simp [HN.out]) (by omega) hPa (cons_bytes (by omega) (spell_bytes v)) (parse_minus_not (by omega))).mono ?_
          rintro e wb ⟨rfl, hBb⟩
          have hSb := hSa.below hBb
          have hBb' : Below w.heap.size w wb := hBa'.trans (hBb.mono hBa'.size)
          have hszb := hSb.lt
          clear hSa hBa' hBb hPa
          go_wp2_with (at_make; refine wpList_make_full _ rfl _ _ 22 rfl 0 5 i0 (.int .u8 0) 1 Try.underlying22 hi hz0 hz1 _ _ _ _ (k + 1) rfl rfl (by omega) (by omega) (by rw [hz2]; omega) (by unfold maxLen; omega) (Nat.zero_le _) ?_; intro wc hownc hgrowc)
          have hRc := brow_made hownc
          have hBc : Below wb.heap.size wb wc := (Below.refl _ _).grown hgrowc (Nat.le_refl _) (fun k h => by cases h)
          have hSc := hSb.below hBc
          have hBc' : Below w.heap.size w wc := hBb'.trans (hBc.mono hBb'.size)
          have hzb' := hBb'.size
          clear hownc hgrowc hBc hSb hBb'
          go_loopw [21] (fun i wr => ∃ (q : Nat) (S : List Int), q ≤ k ∧ i = .int .i64 q ∧ BRow wr wb.heap.size S ∧ BRow wr (w1.heap.size + 1) (spellL v) ∧ S.length = k + 1 ∧ S.take q = (spellL v).take q ∧ Below w.heap.size w wr) (fun i _ => k - (intOf i).toNat)
          case atStart => exact ⟨0, _, Nat.zero_le _, rfl, hRc, hSc, by simp, by simp, hBc'⟩
          case round =>
            clear hRc hSc hBc'
            obtain ⟨q, S, hq, rfl, hZ, hS, hZl, hZt, hB⟩ := hrel
            have HZZ : Hid (S.length = k + 1 ∧ S.take q = (spellL v).take q) := ⟨hZl, hZt⟩
            clear hZl hZt
            by_cases hlt : q < k
            · have s1 := hS.cell q (by rw [HN.out]; omega)
              have z1 := hZ.cell q (by rw [HZZ.out.1]; omega)
              have z2 := hZ.frozen q
              go_wp2
              go_roundw
              case rel => exact ⟨q + 1, _, by omega, by go_num, hZ.set q _, hS.other (by simp; omega) _, by simp [HZZ.out.1], take_step (by rw [HN.out]; omega) (by rw [HZZ.out.1]; omega) HZZ.out.2, hB.setCell (by simp; omega) _⟩
              case measure => simp [intOf]; omega
            · obtain rfl : q = k := by omega
              have e := HZZ.out.2
              rw [List.take_of_length_le (l := spellL v) (by rw [HN.out]; omega)] at e
              have z1 := hZ.cell q (by rw [HZZ.out.1]; omega)
              have z2 := hZ.frozen q
              have hZ2 := hZ.set q 32
              rw [sp_end HZZ.out.1 e] at hZ2
              have hBd : Below w.heap.size w (wr.setCell ⟨wb.heap.size, q, none⟩ (.int .u8 32)) := hB.setCell (by simp; omega) _
              have HD : Hid (BRow (wr.setCell ⟨wb.heap.size, q, none⟩ (.int .u8 32)) wb.heap.size (spellL v ++ [32]) ∧ Below w.heap.size w (wr.setCell ⟨wb.heap.size, q, none⟩ (.int .u8 32))) := ⟨hZ2, hBd⟩
              clear hZ2 hBd e HZZ hB hS
              go_wp2_with fail
              refine (p_no wb.heap.size (q + 1) (spellL v ++ [32]) _ (by simp [HN.out]) (by omega) HD.out.1 (snoc_bytes (by omega) (spell_bytes v)) (parse_space _)).mono ?_
              rintro e wd ⟨rfl, hBe⟩
              have hBf : Below w.heap.size w wd := HD.out.2.trans (hBe.mono HD.out.2.size)
              clear HD hBe
              go_wp2_with fail
              go_ret
              exact ⟨rfl, hBf⟩
open Plain in
set_option maxRecDepth 100000 in
set_option maxHeartbeats 2000000 in
theorem f4_pos (v : Int) (w : World) (h0 : 0 < v) (hr : InRange v) : Calls Try.prog 4 #[.int .i64 v] w fun e w' => e = .returned (.bool true) ∧ Below w.heap.size w w' := by
  have hrr : -9223372036854775808 ≤ v ∧ v ≤ 9223372036854775807 := hr
  obtain ⟨hr1, hr2⟩ := hrr
  obtain ⟨i0, hi, hz0, hz1, hz2⟩ := info_parts Try.info5
  obtain ⟨n, HN⟩ := named (spellL v).length
  have hn1 : 1 ≤ n := by rw [← HN.out]; exact spell_len_pos v
  go_enter Try.func4, Try.ntmps4
  go_wp2_with fail
  refine (f8_n v w hr n HN.out).mono ?_
  rintro e w1 ⟨T, rfl, hT, htk, hn, hB1⟩
  have HT : Hid (T.length = 20 ∧ T.take n = spellL v) := ⟨hT, htk⟩
  clear hT htk
  have HZ : Hid ((Try.prog.info? 26).map (·.size) = some (arr T).size) := by rw [Hid, arr_size, HT.out.1]; exact Try.size26
  obtain ⟨hbuf, hBb, hszb⟩ := laid_row w1 T HT.out.1
  go_wp2_with (first | (refine wpList_store_row rfl 26 (.tmp 3) (.tmp 27) rfl w1.heap.size (arr T) rfl rfl 26 (arr zeros) (heap_zero w1) HZ.out (by rw [arr_size, arr_size, HT.out.1]; rfl) (arr_one T) ?_) | (at_make; refine wpList_make_full _ rfl _ _ 22 rfl 0 5 i0 (.int .u8 0) 1 Try.underlying22 hi hz0 hz1 _ _ _ _ n rfl rfl rfl rfl (by rw [hz2]; omega) (by unfold maxLen; omega) (Nat.zero_le _) ?_; intro w2 hown2 hgrow2))
  have hbuf2 : Row w2 w1.heap.size T := hbuf.of_block (hgrow2.block w1.heap.size hbuf.lt (by simp))
  have hR2 : BRow w2 ((w1.alloc (.cells (arr zeros) 26)).setRow w1.heap.size (arr T)).heap.size (List.replicate n 0) := brow_made hown2
  rw [hszb] at hR2
  have hB2 : Below w.heap.size w w2 := (hB1.trans (hBb.mono hB1.size)).grown hgrow2 (by have := hB1.size; have := hBb.size; omega) (fun k h => by cases h)
  have hz1' := hB1.size
  clear hbuf hBb hszb hown2 hgrow2 hB1
  go_loopw [6] (fun i wr => ∃ (j : Nat) (S : List Int), j ≤ n ∧ i = .int .i64 j ∧ BRow wr (w1.heap.size + 1) S ∧ Row wr w1.heap.size T ∧ S.length = n ∧ S.take j = (spellL v).take j ∧ Below w.heap.size w wr) (fun i _ => n - (intOf i).toNat)
  case atStart => exact ⟨0, _, Nat.zero_le _, rfl, hR2, hbuf2, by simp, by simp, hB2⟩
  case round =>
    clear hR2 hbuf2 hB2
    obtain ⟨j, S, hj, rfl, hS, hbuf, hSl, hSt, hB⟩ := hrel
    have HS : Hid (S.length = n ∧ S.take j = (spellL v).take j) := ⟨hSl, hSt⟩
    clear hSl hSt
    by_cases hlt : j < n
    · have b1 := hbuf.cell j (by omega)
      rw [getD_take HT.out.2 (by rw [HN.out]; omega)] at b1
      have s1 := hS.cell j (by rw [HS.out.1]; omega)
      have s2 := hS.frozen j
      go_wp2
      go_roundw
      case rel => exact ⟨j + 1, _, by omega, by go_num, hS.set j _, hbuf.other (by simp) _, by simp [HS.out.1], take_step (by rw [HN.out]; omega) (by rw [HS.out.1]; omega) HS.out.2, hB.setCell (by simp; omega) _⟩
      case measure => simp [intOf]; omega
    · obtain rfl : j = n := by omega
      have e := HS.out.2
      rw [List.take_of_length_le (by rw [HS.out.1]; omega), List.take_of_length_le (by rw [HN.out]; omega)] at e
      subst e
      clear hbuf HS
      obtain ⟨w3, rfl⟩ : ∃ w3 : World, w3 = wr := ⟨_, rfl⟩
      go_wp2_with fail
      refine (p_yes (w1.heap.size + 1) j (spellL v) v w3 HN.out (by omega) hS (spell_bytes v) (parse_spell v hr)).mono ?_
      rintro e w4 ⟨rfl, hB4⟩
      have hS4 := hS.below hB4
      have hB4' : Below w.heap.size w w4 := hB.trans (hB4.mono hB.size)
      have hsz4 := hS4.lt
      clear hS hB hB4
      go_wp2_with (at_make; refine wpList_make_full _ rfl _ _ 22 rfl 0 5 i0 (.int .u8 0) 1 Try.underlying22 hi hz0 hz1 _ _ _ _ (j + 1) rfl rfl (by omega) (by omega) (by rw [hz2]; omega) (by unfold maxLen; omega) (Nat.zero_le _) ?_; intro w5 hown5 hgrow5; have hR5 := brow_made hown5; have r1 := hR5.cell 0 (by simp); have r2 := hR5.frozen 0)
      have hB5 : Below w4.heap.size w4 w5 := (Below.refl _ _).grown hgrow5 (Nat.le_refl _) (fun k h => by cases h)
      have hS5 := hS4.below hB5
      have hB5' : Below w.heap.size w w5 := hB4'.trans (hB5.mono hB4'.size)
      have hz4' := hB4'.size
      clear hown5 hgrow5 hB5 hS4 r1 r2 hB4'
      go_loopw [11] (fun i wr => ∃ (k : Nat) (Z : List Int), k ≤ j ∧ i = .int .i64 k ∧ BRow wr w4.heap.size Z ∧ BRow wr (w1.heap.size + 1) (spellL v) ∧ Z.length = j + 1 ∧ Z.take (k + 1) = 48 :: (spellL v).take k ∧ Below w.heap.size w wr) (fun i _ => j - (intOf i).toNat)
      case atStart =>
        exact ⟨0, _, Nat.zero_le _, rfl, hR5.set 0 48, hS5.other (by simp; omega) _, by simp, by simp [List.replicate_succ], hB5'.setCell (by simp; omega) _⟩
      case round =>
        clear hR5 hS5 hB5'
        obtain ⟨k, Z, hk2, rfl, hZ, hS, hZl, hZt, hB⟩ := hrel
        have HZZ : Hid (Z.length = j + 1 ∧ Z.take (k + 1) = 48 :: (spellL v).take k) := ⟨hZl, hZt⟩
        clear hZl hZt
        by_cases hlt : k < j
        · have s1 := hS.cell k (by rw [HN.out]; omega)
          have z1 := hZ.cell (k + 1) (by rw [HZZ.out.1]; omega)
          have z2 := hZ.frozen (k + 1)
          go_wp2
          go_roundw
          case rel => exact ⟨k + 1, _, by omega, by go_num, hZ.set (k + 1) _, hS.other (by simp; omega) _, by simp [HZZ.out.1], put_step (by rw [HZZ.out.1, HN.out]) (by rw [HN.out]; omega) HZZ.out.2, hB.setCell (by simp; omega) _⟩
          case measure => simp [intOf]; omega
        · obtain rfl : k = j := by omega
          have e := HZZ.out.2
          rw [List.take_of_length_le (by rw [HZZ.out.1]; omega), List.take_of_length_le (by rw [HN.out]; omega)] at e
          have e2 : spellL v = dec v.natAbs := spell_pos (by omega)
          have e3 : Z = 48 :: dec v.natAbs := by rw [e, e2]
          clear e2 e
          subst e3
          have HZL : Hid ((48 :: dec v.natAbs).length = k + 1) := HZZ.out.1
          clear HZZ
          obtain ⟨w6, rfl⟩ : ∃ w6 : World, w6 = wr := ⟨_, rfl⟩
          go_wp2_with fail
          refine (p_no w4.heap.size (k + 1) (48 :: dec v.natAbs) w6 HZL.out (by omega) hZ (cons_bytes (by omega) ((fun x hx => by have := dec_digits _ x hx; omega))) parse_zero_pos).mono ?_
          rintro e w7 ⟨rfl, hB7⟩
          have hS7 := hS.below hB7
          have hB7' : Below w.heap.size w w7 := hB.trans (hB7.mono hB.size)
          clear hS hZ hB hB7 HZL
          go_wp2_with fail
          refine (f9_any 43 (w1.heap.size + 1) k k (spellL v) w7 HN.out (by omega) hS7).mono ?_
          rintro e w8 ⟨rfl, hP8, hB8⟩
          have hS8 := hS7.below hB8
          have hB8' : Below w.heap.size w w8 := hB7'.trans (hB8.mono hB7'.size)
          clear hS7 hB7' hB8
          go_wp2_with fail
          refine (p_no w7.heap.size (k + 1) (43 :: spellL v) w8 (by simp [HN.out]) (by omega) hP8 (cons_bytes (by omega) (spell_bytes v)) (parse_plus _)).mono ?_
          rintro e w9 ⟨rfl, hB9⟩
          have hS9 := hS8.below hB9
          have hB9' : Below w.heap.size w w9 := hB8'.trans (hB9.mono hB8'.size)
          clear hS8 hB8' hB9 hP8
          go_wp2_with fail
          refine (f9_any 45 (w1.heap.size + 1) k k (spellL v) w9 HN.out (by omega) hS9).mono ?_
          rintro e wa ⟨rfl, hPa, hBa⟩
          have hSa := hS9.below hBa
          have hBa' : Below w.heap.size w wa := hB9'.trans (hBa.mono hB9'.size)
          clear hS9 hB9' hBa
          go_wp2_with fail
          refine (p_yes w9.heap.size (k + 1) (45 :: spellL v) (-v) wa (by simp [HN.out]) (by omega) hPa (cons_bytes (by omega) (spell_bytes v)) (parse_minus_pos h0 hr)).mono ?_
          rintro e wb ⟨rfl, hBb⟩
          have hSb := hSa.below hBb
          have hBb' : Below w.heap.size w wb := hBa'.trans (hBb.mono hBa'.size)
          have hszb := hSb.lt
          clear hSa hBa' hBb hPa
          go_wp2_with (at_make; refine wpList_make_full _ rfl _ _ 22 rfl 0 5 i0 (.int .u8 0) 1 Try.underlying22 hi hz0 hz1 _ _ _ _ (k + 1) rfl rfl (by omega) (by omega) (by rw [hz2]; omega) (by unfold maxLen; omega) (Nat.zero_le _) ?_; intro wc hownc hgrowc)
          have hRc := brow_made hownc
          have hBc : Below wb.heap.size wb wc := (Below.refl _ _).grown hgrowc (Nat.le_refl _) (fun k h => by cases h)
          have hSc := hSb.below hBc
          have hBc' : Below w.heap.size w wc := hBb'.trans (hBc.mono hBb'.size)
          have hzb' := hBb'.size
          clear hownc hgrowc hBc hSb hBb'
          go_loopw [21] (fun i wr => ∃ (q : Nat) (S : List Int), q ≤ k ∧ i = .int .i64 q ∧ BRow wr wb.heap.size S ∧ BRow wr (w1.heap.size + 1) (spellL v) ∧ S.length = k + 1 ∧ S.take q = (spellL v).take q ∧ Below w.heap.size w wr) (fun i _ => k - (intOf i).toNat)
          case atStart => exact ⟨0, _, Nat.zero_le _, rfl, hRc, hSc, by simp, by simp, hBc'⟩
          case round =>
            clear hRc hSc hBc'
            obtain ⟨q, S, hq, rfl, hZ, hS, hZl, hZt, hB⟩ := hrel
            have HZZ : Hid (S.length = k + 1 ∧ S.take q = (spellL v).take q) := ⟨hZl, hZt⟩
            clear hZl hZt
            by_cases hlt : q < k
            · have s1 := hS.cell q (by rw [HN.out]; omega)
              have z1 := hZ.cell q (by rw [HZZ.out.1]; omega)
              have z2 := hZ.frozen q
              go_wp2
              go_roundw
              case rel => exact ⟨q + 1, _, by omega, by go_num, hZ.set q _, hS.other (by simp; omega) _, by simp [HZZ.out.1], take_step (by rw [HN.out]; omega) (by rw [HZZ.out.1]; omega) HZZ.out.2, hB.setCell (by simp; omega) _⟩
              case measure => simp [intOf]; omega
            · obtain rfl : q = k := by omega
              have e := HZZ.out.2
              rw [List.take_of_length_le (l := spellL v) (by rw [HN.out]; omega)] at e
              have z1 := hZ.cell q (by rw [HZZ.out.1]; omega)
              have z2 := hZ.frozen q
              have hZ2 := hZ.set q 32
              rw [sp_end HZZ.out.1 e] at hZ2
              have hBd : Below w.heap.size w (wr.setCell ⟨wb.heap.size, q, none⟩ (.int .u8 32)) := hB.setCell (by simp; omega) _
              have HD : Hid (BRow (wr.setCell ⟨wb.heap.size, q, none⟩ (.int .u8 32)) wb.heap.size (spellL v ++ [32]) ∧ Below w.heap.size w (wr.setCell ⟨wb.heap.size, q, none⟩ (.int .u8 32))) := ⟨hZ2, hBd⟩
              clear hZ2 hBd e HZZ hB hS
              go_wp2_with fail
              refine (p_no wb.heap.size (q + 1) (spellL v ++ [32]) _ (by simp [HN.out]) (by omega) HD.out.1 (snoc_bytes (by omega) (spell_bytes v)) (parse_space _)).mono ?_
              rintro e wd ⟨rfl, hBe⟩
              have hBf : Below w.heap.size w wd := HD.out.2.trans (hBe.mono HD.out.2.size)
              clear HD hBe
              go_wp2_with fail
              go_ret
              exact ⟨rfl, hBf⟩
open Plain in
set_option maxRecDepth 100000 in
set_option maxHeartbeats 2000000 in
theorem f4_zero (v : Int) (w : World) (h0 : v ≤ 0) (h0' : 0 ≤ v) (hr : InRange v) : Calls Try.prog 4 #[.int .i64 v] w fun e w' => e = .returned (.bool true) ∧ Below w.heap.size w w' := by
  obtain ⟨i0, hi, hz0, hz1, hz2⟩ := info_parts Try.info5
  obtain ⟨n, HN⟩ := named (spellL v).length
  have hn1 : 1 ≤ n := by rw [← HN.out]; exact spell_len_pos v
  go_enter Try.func4, Try.ntmps4
  go_wp2_with fail
  refine (f8_n v w hr n HN.out).mono ?_
  rintro e w1 ⟨T, rfl, hT, htk, hn, hB1⟩
  have HT : Hid (T.length = 20 ∧ T.take n = spellL v) := ⟨hT, htk⟩
  clear hT htk
  have HZ : Hid ((Try.prog.info? 26).map (·.size) = some (arr T).size) := by rw [Hid, arr_size, HT.out.1]; exact Try.size26
  obtain ⟨hbuf, hBb, hszb⟩ := laid_row w1 T HT.out.1
  go_wp2_with (first | (refine wpList_store_row rfl 26 (.tmp 3) (.tmp 27) rfl w1.heap.size (arr T) rfl rfl 26 (arr zeros) (heap_zero w1) HZ.out (by rw [arr_size, arr_size, HT.out.1]; rfl) (arr_one T) ?_) | (at_make; refine wpList_make_full _ rfl _ _ 22 rfl 0 5 i0 (.int .u8 0) 1 Try.underlying22 hi hz0 hz1 _ _ _ _ n rfl rfl rfl rfl (by rw [hz2]; omega) (by unfold maxLen; omega) (Nat.zero_le _) ?_; intro w2 hown2 hgrow2))
  have hbuf2 : Row w2 w1.heap.size T := hbuf.of_block (hgrow2.block w1.heap.size hbuf.lt (by simp))
  have hR2 : BRow w2 ((w1.alloc (.cells (arr zeros) 26)).setRow w1.heap.size (arr T)).heap.size (List.replicate n 0) := brow_made hown2
  rw [hszb] at hR2
  have hB2 : Below w.heap.size w w2 := (hB1.trans (hBb.mono hB1.size)).grown hgrow2 (by have := hB1.size; have := hBb.size; omega) (fun k h => by cases h)
  have hz1' := hB1.size
  clear hbuf hBb hszb hown2 hgrow2 hB1
  go_loopw [6] (fun i wr => ∃ (j : Nat) (S : List Int), j ≤ n ∧ i = .int .i64 j ∧ BRow wr (w1.heap.size + 1) S ∧ Row wr w1.heap.size T ∧ S.length = n ∧ S.take j = (spellL v).take j ∧ Below w.heap.size w wr) (fun i _ => n - (intOf i).toNat)
  case atStart => exact ⟨0, _, Nat.zero_le _, rfl, hR2, hbuf2, by simp, by simp, hB2⟩
  case round =>
    clear hR2 hbuf2 hB2
    obtain ⟨j, S, hj, rfl, hS, hbuf, hSl, hSt, hB⟩ := hrel
    have HS : Hid (S.length = n ∧ S.take j = (spellL v).take j) := ⟨hSl, hSt⟩
    clear hSl hSt
    by_cases hlt : j < n
    · have b1 := hbuf.cell j (by omega)
      rw [getD_take HT.out.2 (by rw [HN.out]; omega)] at b1
      have s1 := hS.cell j (by rw [HS.out.1]; omega)
      have s2 := hS.frozen j
      go_wp2
      go_roundw
      case rel => exact ⟨j + 1, _, by omega, by go_num, hS.set j _, hbuf.other (by simp) _, by simp [HS.out.1], take_step (by rw [HN.out]; omega) (by rw [HS.out.1]; omega) HS.out.2, hB.setCell (by simp; omega) _⟩
      case measure => simp [intOf]; omega
    · obtain rfl : j = n := by omega
      have e := HS.out.2
      rw [List.take_of_length_le (by rw [HS.out.1]; omega), List.take_of_length_le (by rw [HN.out]; omega)] at e
      subst e
      clear hbuf HS
      obtain ⟨w3, rfl⟩ : ∃ w3 : World, w3 = wr := ⟨_, rfl⟩
      go_wp2_with fail
      refine (p_yes (w1.heap.size + 1) j (spellL v) v w3 HN.out (by omega) hS (spell_bytes v) (parse_spell v hr)).mono ?_
      rintro e w4 ⟨rfl, hB4⟩
      have hS4 := hS.below hB4
      have hB4' : Below w.heap.size w w4 := hB.trans (hB4.mono hB.size)
      have hsz4 := hS4.lt
      clear hS hB hB4
      go_wp2_with (at_make; refine wpList_make_full _ rfl _ _ 22 rfl 0 5 i0 (.int .u8 0) 1 Try.underlying22 hi hz0 hz1 _ _ _ _ (j + 1) rfl rfl (by omega) (by omega) (by rw [hz2]; omega) (by unfold maxLen; omega) (Nat.zero_le _) ?_; intro w5 hown5 hgrow5; have hR5 := brow_made hown5; have r1 := hR5.cell 0 (by simp); have r2 := hR5.frozen 0)
      have hB5 : Below w4.heap.size w4 w5 := (Below.refl _ _).grown hgrow5 (Nat.le_refl _) (fun k h => by cases h)
      have hS5 := hS4.below hB5
      have hB5' : Below w.heap.size w w5 := hB4'.trans (hB5.mono hB4'.size)
      have hz4' := hB4'.size
      clear hown5 hgrow5 hB5 hS4 r1 r2 hB4'
      go_loopw [11] (fun i wr => ∃ (k : Nat) (Z : List Int), k ≤ j ∧ i = .int .i64 k ∧ BRow wr w4.heap.size Z ∧ BRow wr (w1.heap.size + 1) (spellL v) ∧ Z.length = j + 1 ∧ Z.take (k + 1) = 48 :: (spellL v).take k ∧ Below w.heap.size w wr) (fun i _ => j - (intOf i).toNat)
      case atStart =>
        exact ⟨0, _, Nat.zero_le _, rfl, hR5.set 0 48, hS5.other (by simp; omega) _, by simp, by simp [List.replicate_succ], hB5'.setCell (by simp; omega) _⟩
      case round =>
        clear hR5 hS5 hB5'
        obtain ⟨k, Z, hk2, rfl, hZ, hS, hZl, hZt, hB⟩ := hrel
        have HZZ : Hid (Z.length = j + 1 ∧ Z.take (k + 1) = 48 :: (spellL v).take k) := ⟨hZl, hZt⟩
        clear hZl hZt
        by_cases hlt : k < j
        · have s1 := hS.cell k (by rw [HN.out]; omega)
          have z1 := hZ.cell (k + 1) (by rw [HZZ.out.1]; omega)
          have z2 := hZ.frozen (k + 1)
          go_wp2
          go_roundw
          case rel => exact ⟨k + 1, _, by omega, by go_num, hZ.set (k + 1) _, hS.other (by simp; omega) _, by simp [HZZ.out.1], put_step (by rw [HZZ.out.1, HN.out]) (by rw [HN.out]; omega) HZZ.out.2, hB.setCell (by simp; omega) _⟩
          case measure => simp [intOf]; omega
        · obtain rfl : k = j := by omega
          have e := HZZ.out.2
          rw [List.take_of_length_le (by rw [HZZ.out.1]; omega), List.take_of_length_le (by rw [HN.out]; omega)] at e
          have e2 : spellL v = dec v.natAbs := spell_pos (by omega)
          have e3 : Z = 48 :: dec v.natAbs := by rw [e, e2]
          clear e2 e
          subst e3
          have HZL : Hid ((48 :: dec v.natAbs).length = k + 1) := HZZ.out.1
          clear HZZ
          obtain ⟨w6, rfl⟩ : ∃ w6 : World, w6 = wr := ⟨_, rfl⟩
          go_wp2_with fail
          refine (p_no w4.heap.size (k + 1) (48 :: dec v.natAbs) w6 HZL.out (by omega) hZ (cons_bytes (by omega) ((fun x hx => by have := dec_digits _ x hx; omega))) parse_zero_pos).mono ?_
          rintro e w7 ⟨rfl, hB7⟩
          have hS7 := hS.below hB7
          have hB7' : Below w.heap.size w w7 := hB.trans (hB7.mono hB.size)
          clear hS hZ hB hB7 HZL
          go_wp2_with fail
          refine (f9_any 43 (w1.heap.size + 1) k k (spellL v) w7 HN.out (by omega) hS7).mono ?_
          rintro e w8 ⟨rfl, hP8, hB8⟩
          have hS8 := hS7.below hB8
          have hB8' : Below w.heap.size w w8 := hB7'.trans (hB8.mono hB7'.size)
          clear hS7 hB7' hB8
          go_wp2_with fail
          refine (p_no w7.heap.size (k + 1) (43 :: spellL v) w8 (by simp [HN.out]) (by omega) hP8 (cons_bytes (by omega) (spell_bytes v)) (parse_plus _)).mono ?_
          rintro e w9 ⟨rfl, hB9⟩
          have hS9 := hS8.below hB9
          have hB9' : Below w.heap.size w w9 := hB8'.trans (hB9.mono hB8'.size)
          clear hS8 hB8' hB9 hP8
          go_wp2_with fail
          refine (f9_any 45 (w1.heap.size + 1) k k (spellL v) w9 HN.out (by omega) hS9).mono ?_
          rintro e wa ⟨rfl, hPa, hBa⟩
          have hSa := hS9.below hBa
          have hBa' : Below w.heap.size w wa := hB9'.trans (hBa.mono hB9'.size)
          clear hS9 hB9' hBa
          go_wp2_with fail
          refine (p_no w9.heap.size (k + 1) (45 :: spellL v) wa (by simp [HN.out]) (by omega) hPa (cons_bytes (by omega) (spell_bytes v)) (parse_minus_not (by omega))).mono ?_
          rintro e wb ⟨rfl, hBb⟩
          have hSb := hSa.below hBb
          have hBb' : Below w.heap.size w wb := hBa'.trans (hBb.mono hBa'.size)
          have hszb := hSb.lt
          clear hSa hBa' hBb hPa
          go_wp2_with (at_make; refine wpList_make_full _ rfl _ _ 22 rfl 0 5 i0 (.int .u8 0) 1 Try.underlying22 hi hz0 hz1 _ _ _ _ (k + 1) rfl rfl (by omega) (by omega) (by rw [hz2]; omega) (by unfold maxLen; omega) (Nat.zero_le _) ?_; intro wc hownc hgrowc)
          have hRc := brow_made hownc
          have hBc : Below wb.heap.size wb wc := (Below.refl _ _).grown hgrowc (Nat.le_refl _) (fun k h => by cases h)
          have hSc := hSb.below hBc
          have hBc' : Below w.heap.size w wc := hBb'.trans (hBc.mono hBb'.size)
          have hzb' := hBb'.size
          clear hownc hgrowc hBc hSb hBb'
          go_loopw [21] (fun i wr => ∃ (q : Nat) (S : List Int), q ≤ k ∧ i = .int .i64 q ∧ BRow wr wb.heap.size S ∧ BRow wr (w1.heap.size + 1) (spellL v) ∧ S.length = k + 1 ∧ S.take q = (spellL v).take q ∧ Below w.heap.size w wr) (fun i _ => k - (intOf i).toNat)
          case atStart => exact ⟨0, _, Nat.zero_le _, rfl, hRc, hSc, by simp, by simp, hBc'⟩
          case round =>
            clear hRc hSc hBc'
            obtain ⟨q, S, hq, rfl, hZ, hS, hZl, hZt, hB⟩ := hrel
            have HZZ : Hid (S.length = k + 1 ∧ S.take q = (spellL v).take q) := ⟨hZl, hZt⟩
            clear hZl hZt
            by_cases hlt : q < k
            · have s1 := hS.cell q (by rw [HN.out]; omega)
              have z1 := hZ.cell q (by rw [HZZ.out.1]; omega)
              have z2 := hZ.frozen q
              go_wp2
              go_roundw
              case rel => exact ⟨q + 1, _, by omega, by go_num, hZ.set q _, hS.other (by simp; omega) _, by simp [HZZ.out.1], take_step (by rw [HN.out]; omega) (by rw [HZZ.out.1]; omega) HZZ.out.2, hB.setCell (by simp; omega) _⟩
              case measure => simp [intOf]; omega
            · obtain rfl : q = k := by omega
              have e := HZZ.out.2
              rw [List.take_of_length_le (l := spellL v) (by rw [HN.out]; omega)] at e
              have z1 := hZ.cell q (by rw [HZZ.out.1]; omega)
              have z2 := hZ.frozen q
              have hZ2 := hZ.set q 32
              rw [sp_end HZZ.out.1 e] at hZ2
              have hBd : Below w.heap.size w (wr.setCell ⟨wb.heap.size, q, none⟩ (.int .u8 32)) := hB.setCell (by simp; omega) _
              have HD : Hid (BRow (wr.setCell ⟨wb.heap.size, q, none⟩ (.int .u8 32)) wb.heap.size (spellL v ++ [32]) ∧ Below w.heap.size w (wr.setCell ⟨wb.heap.size, q, none⟩ (.int .u8 32))) := ⟨hZ2, hBd⟩
              clear hZ2 hBd e HZZ hB hS
              go_wp2_with fail
              refine (p_no wb.heap.size (q + 1) (spellL v ++ [32]) _ (by simp [HN.out]) (by omega) HD.out.1 (snoc_bytes (by omega) (spell_bytes v)) (parse_space _)).mono ?_
              rintro e wd ⟨rfl, hBe⟩
              have hBf : Below w.heap.size w wd := HD.out.2.trans (hBe.mono HD.out.2.size)
              clear HD hBe
              go_wp2_with fail
              go_ret
              exact ⟨rfl, hBf⟩
open Plain in
theorem f4_any (v : Int) (w : World) (hr : InRange v) : Calls Try.prog 4 #[.int .i64 v] w fun e w' => e = .returned (.bool true) ∧ Below w.heap.size w w' := by
  by_cases h0 : v < 0
  · exact f4_neg v w h0 hr
  by_cases h1 : 0 < v
  · exact f4_pos v w h1 hr
  · exact f4_zero v w (by omega) (by omega) hr

end Go.Proofs.Qxb6630387a
