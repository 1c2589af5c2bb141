import Derived.Test.Qxb6630294aW3
namespace Go.Proofs.Qxb6630294a
open Go.RowKit

/-! The plain law of the insertion. -/
/-- The earlier messages with m put in at a, as far as the j-th. -/
def insTo (L : List Msg) (a : Nat) (m : Msg) (j : Nat) : List Msg := L.take a ++ m :: (L.take j).drop a
def ins (L : List Msg) (a : Nat) (m : Msg) : List Msg := L.take a ++ m :: L.drop a

theorem insTo_start (L : List Msg) (a : Nat) (m : Msg) : insTo L a m a = L.take a ++ [m] := by
  have : (L.take a).drop a = [] := by rw [List.drop_eq_nil_iff]; simp; omega
  simp [insTo, this]

theorem insTo_succ (L : List Msg) (a : Nat) (m : Msg) (j : Nat) (ha : a ≤ j) (hj : j < L.length) : insTo L a m (j + 1) = insTo L a m j ++ [L[j]] := by
  have : (L.take (j + 1)).drop a = (L.take j).drop a ++ [L[j]] := by
    rw [List.take_succ_eq_append_getElem hj, List.drop_append_of_le_length (by simp; omega)]
  simp [insTo, this]

theorem insTo_end (L : List Msg) (a : Nat) (m : Msg) : insTo L a m L.length = ins L a m := by simp [insTo, ins]

theorem ins_length (L : List Msg) (a : Nat) (m : Msg) (ha : a ≤ L.length) : (ins L a m).length = L.length + 1 := by
  simp [ins]; omega

section
variable (ctx content : ByteArray) (L : List Msg) (a l : Nat) (m : Msg)

theorem ins_lead (hl : (lead ctx).length = l) (i : Nat) (hi : i < L.length + 1) : ∃ x, (msgs ctx L content)[l + i]? = some x ∧ (msgs ⟨#[]⟩ L content)[i]? = some x := by
  have hB : i < (L ++ [userMsg content]).length := by simp; omega
  refine ⟨(L ++ [userMsg content])[i], ?_, ?_⟩
  · rw [msgs, List.append_assoc, List.getElem?_append_right (by omega), hl, show l + i - l = i from by omega, List.getElem?_eq_getElem hB]
  · simp only [msgs, lead]
    simp [List.getElem?_eq_getElem hB]

theorem ins_msgs : msgs ctx (ins L a m) content = (lead ctx ++ L.take a) ++ m :: (L.drop a ++ [userMsg content]) := by
  simp [msgs, ins]

theorem ins_at (hl : (lead ctx).length = l) (ha : a ≤ L.length) : (msgs ctx (ins L a m) content)[l + a]? = some m := by
  have hA : (lead ctx ++ L.take a).length = l + a := by simp [hl]; omega
  rw [ins_msgs, List.getElem?_append_right (by omega), hA, Nat.sub_self]
  rfl

theorem ins_below (hl : (lead ctx).length = l) (ha : a ≤ L.length) (j : Nat) (hj : j < l + a) : ∃ x, (msgs ctx (ins L a m) content)[j]? = some x ∧ (msgs ctx L content)[j]? = some x := by
  have hA : (lead ctx ++ L.take a).length = l + a := by simp [hl]; omega
  refine ⟨(lead ctx ++ L.take a)[j]'(by omega), ?_, ?_⟩
  · rw [ins_msgs, List.getElem?_append_left (by omega), List.getElem?_eq_getElem]
  · rw [split_whole ctx content L a, List.getElem?_append_left (by omega), List.getElem?_eq_getElem]

theorem ins_above (hl : (lead ctx).length = l) (ha : a ≤ L.length) (j : Nat) (hj : l + a ≤ j) (hj2 : j < L.length + 1 + l) : ∃ x, (msgs ctx (ins L a m) content)[j + 1]? = some x ∧ (msgs ctx L content)[j]? = some x := by
  have hA : (lead ctx ++ L.take a).length = l + a := by simp [hl]; omega
  have hB : j - (l + a) < (L.drop a ++ [userMsg content]).length := by simp; omega
  refine ⟨(L.drop a ++ [userMsg content])[j - (l + a)], ?_, ?_⟩
  · rw [ins_msgs, List.getElem?_append_right (by omega), hA, show j + 1 - (l + a) = (j - (l + a)) + 1 from by omega, List.getElem?_cons_succ, List.getElem?_eq_getElem hB]
  · rw [split_whole ctx content L a, List.getElem?_append_right (by omega), hA, List.getElem?_eq_getElem hB]

theorem ins_first (h : ctx.toList.isEmpty = false) : (msgs ctx L content)[0]? = some (⟨#[115, 121, 115, 116, 101, 109]⟩, ctx) := by
  simp [msgs, lead, h]
end

/-- What the box holds. -/
def BoxIs (w : World) (N : Nat) (m : Msg) : Prop := N < w.heap.size ∧ w.cell? ⟨N, 0, none⟩ = some (.string m.1) ∧ w.cell? ⟨N, 1, none⟩ = some (.string m.2)
theorem BoxIs.below {w w' : World} {N : Nat} {m : Msg} (h : BoxIs w N m) (hb : Below w.heap.size w w') : BoxIs w' N m :=
  ⟨Nat.lt_of_lt_of_le h.1 hb.size, (hb.cell (p := ⟨N, 0, none⟩) h.1).trans h.2.1, (hb.cell (p := ⟨N, 1, none⟩) h.1).trans h.2.2⟩

set_option maxRecDepth 100000 in
set_option maxHeartbeats 2000000 in
theorem f4_core (ctx content : ByteArray) (ao : Option Addr) (n c : Nat) (k0 : Int) (m : Msg) (L : List Msg) (w : World) (hL : L.length = n) (hn : n ≤ 9223372036854775807) (hl : Lies w ao L) (hnone : ao = none → n = 0)
    (l : Nat) (hlen : (lead ctx).length = l) (hcase : (l = 0 ∧ ctx.toList.isEmpty = true) ∨ (l = 1 ∧ ctx.toList.isEmpty = false)) :
    Calls Try.prog 4 #[.string ctx, .slice ao n c, .string content, .int .i64 k0, .agg #[.string m.1, .string m.2]] w fun e w' => e = .returned (.bool true) ∧ Below w.heap.size w w' := by
  obtain ⟨i0, hi, hz0, hz1, hz2⟩ := info_parts Try.info26
  have hBa : Below w.heap.size w (w.alloc (.cells #[.string m.1, .string m.2] 26)) := (Below.refl _ _).alloc (Nat.le_refl _) _
  have hXa : BoxIs (w.alloc (.cells #[.string m.1, .string m.2] 26)) w.heap.size m := ⟨by simp, by simp, by simp⟩
  have HNone : Hid (ao = none → n = 0) := hnone
  clear hnone
  go_enter Try.func4, Try.ntmps4
  go_wp2_with fail
  refine (f9_any ctx content ao n c k0 m L _ hL hn (hl.below hBa)).mono ?_
  rintro e w1 ⟨⟨b, rfl⟩, hB1⟩
  have hB1' : Below w.heap.size w w1 := hBa.trans (hB1.mono (by simp))
  have hX1 := hXa.below hB1
  clear hXa hB1 hBa
  obtain ⟨x0, x1, x2⟩ := hX1
  cases b
  · go_wp2_with fail
    go_ret
    exact ⟨rfl, hB1'⟩
  go_wp2_with fail
  refine (f6_any ctx content ao n c m L w1 hL hn (hl.below hB1')).mono ?_
  rintro e w2 ⟨hf, hB2⟩
  have hX2 := BoxIs.below ⟨x0, x1, x2⟩ hB2
  clear x0 x1 x2
  obtain ⟨x0, x1, x2⟩ := hX2
  have hB2' : Below w.heap.size w w2 := hB1'.trans (hB2.mono hB1'.size)
  rcases hf with rfl | ⟨rfl, hn2⟩
  · go_wp2_with fail
    go_ret
    exact ⟨rfl, hB2'⟩
  by_cases hk0 : k0 < 0
  · go_wp2_with fail
    go_ret
    exact ⟨rfl, hB2'⟩
  by_cases hk1 : (n : Int) < k0
  · go_wp2_with fail
    go_ret
    exact ⟨rfl, hB2'⟩
  obtain ⟨a, rfl⟩ := Int.eq_ofNat_of_zero_le (show 0 ≤ k0 by omega)
  have hl2 := hl.below hB2'
  have ha : a ≤ n := by omega
  have hsz2 := hB2'.size
  clear hk0 hk1 hB1' hB2 hl
  have HL : Hid (L.length = n) := hL
  have HN : Hid _ := hlen
  clear hL hlen
  go_wp2_with (at_make; refine wpList_make_own _ rfl _ _ 22 rfl w2.heap.size 26 i0 (.agg #[.string ⟨#[]⟩, .string ⟨#[]⟩]) 2 Try.underlying22 hi hz0 hz1 _ _ _ (n + 1) rfl rfl (by omega) (by rw [hz2]; omega) (by unfold maxLen; omega) (Nat.le_refl _) ?_; intro w3 hown3 hgrow3)
  have hB3 : Below w2.heap.size w2 w3 := (Below.refl _ _).grown hgrow3 (Nat.le_refl _) (fun k h => by cases h)
  go_wp2
  go_loopw [11, 12] (fun v i wr => ∃ k : Nat, k ≤ a ∧ i = .int .i64 k ∧ v = .slice (some ⟨w2.heap.size, 0, none⟩) k (n + 1) ∧ wr.ownsRow w2.heap.size 26 2 (.slice (some ⟨w2.heap.size, 0, none⟩) k (n + 1)) k (flat (L.take k)) ∧ Below w2.heap.size w2 wr)
    (fun _ i _ => a - (intOf i).toNat)
  case atStart => exact ⟨0, Nat.zero_le _, rfl, rfl, by simpa [flat] using hown3, hB3⟩
  case round =>
    clear hown3 hgrow3 hB3
    obtain ⟨k, hk, rfl, rfl, hown, hB⟩ := hrel
    have hszr := hB.size
    by_cases hlt : k < a
    · obtain ⟨b, of, rfl, hbl, g0, g1⟩ := (hl2.below hB) k (by rw [HL.out]; omega)
      have hkL : k < L.length := by rw [HL.out]; omega
      have HC : Hid _ := cell_two wr (.string L[k].1) (.string L[k].2) 26
      go_wp2_with (at_builtin; refine wpList_append_fits _ rfl (.tmp 51) (.tmp 56) 22 rfl w2.heap.size 26 i0 2 Try.underlying22 hi hz1 w2.heap.size k (n + 1) _ rfl (hown.alloc _) ⟨wr.heap.size, 0, none⟩ 1 1 [.string L[k].1, .string L[k].2] rfl rfl HC.out (two_one _ _) (by omega) ?_; intro w4 hown4 hgrow4)
      go_roundw
      case rel =>
        refine ⟨k + 1, by omega, by go_num, rfl, ?_, ?_⟩
        · rw [List.take_succ_eq_append_getElem hkL, flat_append]
          exact hown4
        · exact (hB.alloc hszr _).grown hgrow4 (by simp; omega) (fun k h => by cases h; omega)
      case measure => simp [intOf]; omega
    · obtain rfl : k = a := by omega
      obtain ⟨y0, y1, y2⟩ := BoxIs.below ⟨x0, x1, x2⟩ hB
      have HC : Hid _ := cell_two wr (.string m.1) (.string m.2) 26
      go_wp2_with (at_builtin; refine wpList_append_fits _ rfl (.tmp 58) (.tmp 60) 22 rfl w2.heap.size 26 i0 2 Try.underlying22 hi hz1 w2.heap.size k (n + 1) _ rfl (hown.alloc _) ⟨wr.heap.size, 0, none⟩ 1 1 [.string m.1, .string m.2] rfl rfl HC.out (two_one _ _) (by omega) ?_; intro w4 hown4 hgrow4)
      have hB4 : Below w2.heap.size w2 w4 := (hB.alloc hszr _).grown hgrow4 (by simp; omega) (fun k h => by cases h; omega)
      have hown4' : w4.ownsRow w2.heap.size 26 2 (.slice (some ⟨w2.heap.size, 0, none⟩) (k + 1) (n + 1)) (k + 1) (flat (insTo L k m k)) := by
        rw [insTo_start, flat_append]; exact hown4
      clear hown4 hgrow4 hown hB y0 y1 y2 HC hszr
      obtain ⟨wo, rfl⟩ : ∃ wo : World, wo = wr := ⟨_, rfl⟩
      go_loopw [11, 13] (fun v i wr => ∃ j : Nat, k ≤ j ∧ j ≤ n ∧ i = .int .i64 j ∧ v = .slice (some ⟨w2.heap.size, 0, none⟩) (j + 1) (n + 1) ∧ wr.ownsRow w2.heap.size 26 2 (.slice (some ⟨w2.heap.size, 0, none⟩) (j + 1) (n + 1)) (j + 1) (flat (insTo L k m j)) ∧ Below w2.heap.size w2 wr)
        (fun _ i _ => n - (intOf i).toNat)
      case atStart => exact ⟨k, Nat.le_refl _, ha, rfl, rfl, hown4', hB4⟩
      case round =>
        clear hown4' hB4
        obtain ⟨j, hkj, hj, rfl, rfl, hown, hB⟩ := hrel
        have hszr := hB.size
        by_cases hlt : j < n
        · obtain ⟨b, of, rfl, hbl, g0, g1⟩ := (hl2.below hB) j (by rw [HL.out]; omega)
          have hkL : j < L.length := by rw [HL.out]; omega
          have HC : Hid _ := cell_two wr (.string L[j].1) (.string L[j].2) 26
          go_wp2_with (at_builtin; refine wpList_append_fits _ rfl (.tmp 69) (.tmp 74) 22 rfl w2.heap.size 26 i0 2 Try.underlying22 hi hz1 w2.heap.size (j + 1) (n + 1) _ rfl (hown.alloc _) ⟨wr.heap.size, 0, none⟩ 1 1 [.string L[j].1, .string L[j].2] rfl rfl HC.out (two_one _ _) (by omega) ?_; intro w5 hown5 hgrow5)
          go_roundw
          case rel =>
            refine ⟨j + 1, by omega, by omega, by go_num, rfl, ?_, ?_⟩
            · rw [insTo_succ L k m j hkj hkL, flat_append]
              exact hown5
            · exact (hB.alloc hszr _).grown hgrow5 (by simp; omega) (fun k h => by cases h; omega)
          case measure => simp [intOf]; omega
        · obtain rfl : j = n := by omega
          have hG : Lies wr (some ⟨w2.heap.size, 0, none⟩) (ins L k m) := Lies.of_owns (by have := hown; rw [← HL.out, insTo_end, HL.out] at this; exact this) (by rw [ins_length L k m (by rw [HL.out]; omega), HL.out])
          have hl3 := hl2.below hB
          have hX3 := BoxIs.below ⟨x0, x1, x2⟩ hB
          have hBr : Below w.heap.size w wr := hB2'.trans (hB.mono hB2'.size)
          have HM1 : Hid _ := msgs_len HN.out L content
          have HM2 : Hid _ := msgs_len (show (lead ⟨#[]⟩).length = 0 by simp [lead]) L content
          have HM3 : Hid _ := msgs_len HN.out (ins L k m) content
          have HI : Hid ((ins L k m).length = j + 1) := by rw [Hid, ins_length L k m (by rw [HL.out]; omega), HL.out]
          clear hown hB hl2 hB2' x0 x1 x2 hlt
          go_wp2_with fail
          refine (f8_any ao j c L wr HL.out (by omega) hl3 HNone.out).mono ?_
          rintro e w4 ⟨v4, c4, rfl, hv4, hB4⟩
          go_wp2_with fail
          refine (f7_len ctx content v4 j c4 (j + 1 + l) L w4 HL.out (by omega) hv4 (by rw [HM1.out, HL.out])).mono ?_
          rintro e w5 ⟨g5, c5, rfl, hR5, hB5⟩
          go_wp2_with fail
          refine (f8_any ao j c L w5 HL.out (by omega) ((hl3.below hB4).below hB5) HNone.out).mono ?_
          rintro e w6 ⟨v6, c6, rfl, hv6, hB6⟩
          go_wp2_with fail
          refine (f7_len ⟨#[]⟩ content v6 j c6 (j + 1) L w6 HL.out (by omega) hv6 (by rw [HM2.out, HL.out])).mono ?_
          rintro e w7 ⟨g7, c7, rfl, hR7, hB7⟩
          go_wp2_with fail
          refine (f8_any (some ⟨w2.heap.size, 0, none⟩) (j + 1) (j + 1) (ins L k m) w7 HI.out (by omega) ((((hG.below hB4).below hB5).below hB6).below hB7) (fun h => by cases h)).mono ?_
          rintro e w8 ⟨v8, c8, rfl, hv8, hB8⟩
          go_wp2_with fail
          refine (f7_len ctx content v8 (j + 1) c8 (j + 1 + 1 + l) (ins L k m) w8 HI.out (by omega) hv8 (by rw [HM3.out, HI.out])).mono ?_
          rintro e w9 ⟨g9, c9, rfl, hR9, hB9⟩
          have hz4 := hB4.size
          have hz5 := hB5.size
          have hz6 := hB6.size
          have hz7 := hB7.size
          have hz8 := hB8.size
          have hz9 := hB9.size
          have hz := hBr.size
          have hBB : Below w.heap.size w w9 := ((((((hBr.trans (hB4.mono (by omega))).trans (hB5.mono (by omega))).trans (hB6.mono (by omega))).trans (hB7.mono (by omega))).trans (hB8.mono (by omega))).trans (hB9.mono (by omega)))
          have hX9 := (((((hX3.below hB4).below hB5).below hB6).below hB7).below hB8).below hB9
          have hR5' := (((hR5.below hB6).below hB7).below hB8).below hB9
          have hR7' := (hR7.below hB8).below hB9
          clear hB4 hB5 hB6 hB7 hB8 hB9 hBr hX3 hR5 hR7 hv4 hv6 hv8 hl3 hG hz4 hz5 hz6 hz7 hz8 hz9 hz HM1 HM2 HM3 HI
          have HS : Hid (∀ wx, Below w9.heap.size w9 wx → ∀ i, i < j + 1 → SameAt wx g5 (l + i) g7 i) := fun wx hx i hi => by
            obtain ⟨x, h1, h2⟩ := ins_lead ctx content L l HN.out i (by rw [HL.out]; omega)
            exact sameAt (hR5'.below hx) (hR7'.below hx) (l + i) i x h1 h2
          have HP : Hid (∀ wx, Below w9.heap.size w9 wx → wx.cell? ⟨g9, (l + k) * 2, none⟩ = some (.string m.1) ∧ wx.cell? ⟨g9, (l + k) * 2 + 1, none⟩ = some (.string m.2)) := fun wx hx =>
            (hR9.below hx).at (l + k) m (ins_at ctx content L k l m HN.out (by rw [HL.out]; omega))
          have HD : Hid (∀ wx, Below w9.heap.size w9 wx → ∀ i, i < l + k → SameAt wx g9 i g5 i) := fun wx hx i hi => by
            obtain ⟨x, h1, h2⟩ := ins_below ctx content L k l m HN.out (by rw [HL.out]; omega) i hi
            exact sameAt (hR9.below hx) (hR5'.below hx) i i x h1 h2
          have HU : Hid (∀ wx, Below w9.heap.size w9 wx → ∀ i, l + k ≤ i → i < j + 1 + l → SameAt wx g9 (i + 1) g5 i) := fun wx hx i hi hi2 => by
            obtain ⟨x, h1, h2⟩ := ins_above ctx content L k l m HN.out (by rw [HL.out]; omega) i hi (by rw [HL.out]; omega)
            exact sameAt (hR9.below hx) (hR5'.below hx) (i + 1) i x h1 h2
          have HF : Hid (ctx.toList.isEmpty = false → w9.cell? ⟨g5, 0, none⟩ = some (.string ⟨#[115, 121, 115, 116, 101, 109]⟩) ∧ w9.cell? ⟨g5, 1, none⟩ = some (.string ctx)) := fun h => by
            have := hR5'.at 0 _ (ins_first ctx content L h)
            simpa using this
          have HX : Hid (∀ wx, Below w9.heap.size w9 wx → BoxIs wx w.heap.size m) := fun wx hx => hX9.below hx
          clear hR5' hR7' hR9 hX9 HL HN HNone
          obtain ⟨p, hp1, hp2⟩ : ∃ p : Nat, p ≤ l + k ∧ l + k ≤ p := ⟨_, Nat.le_refl _, Nat.le_refl _⟩
          obtain ⟨q, hq1, hq2⟩ : ∃ q : Nat, q ≤ j + 1 + l ∧ j + 1 + l ≤ q := ⟨_, Nat.le_refl _, Nat.le_refl _⟩
          rcases hcase with ⟨rfl, he⟩ | ⟨rfl, he⟩
          · simp only [Nat.add_zero, Nat.zero_add] at HS HP HD HU hp1 hp2 hq1 hq2
            clear HF
            go_wp2
            go_loopw [18] (fun s wr => ∃ i : Nat, i ≤ j + 1 ∧ s = .int .i64 i ∧ Below w9.heap.size w9 wr) (fun s _ => j + 1 - (intOf s).toNat)
            case atStart => exact ⟨0, Nat.zero_le _, rfl, Below.refl _ _⟩
            case round =>
              obtain ⟨i, hi, rfl, hB⟩ := hrel
              by_cases hlt : i < j + 1
              · obtain ⟨s, t, a0, a1, b0, b1⟩ := HS.out wr hB i hlt
                go_wp2
                go_quiet (fail)
                go_wp2
                go_roundw
                case rel => exact ⟨i + 1, by omega, by go_num, below_drewN hB _⟩
                case measure => simp [intOf]; omega
              · obtain ⟨u0, u1⟩ := HP.out wr hB
                obtain ⟨_, y0, y1⟩ := HX.out wr hB
                go_wp2
                go_quiet (fail)
                go_wp2
                have hBo := below_drewN hB nq
                clear hB u0 u1 y0 y1
                obtain ⟨wo, rfl⟩ : ∃ wo : World, wo = wr := ⟨_, rfl⟩
                go_loopw [20] (fun s wr => ∃ i : Nat, i ≤ q ∧ s = .int .i64 i ∧ Below w9.heap.size w9 wr) (fun s _ => q - (intOf s).toNat)
                case atStart => exact ⟨0, Nat.zero_le _, rfl, hBo⟩
                case round =>
                  clear hBo
                  obtain ⟨i, hi, rfl, hB⟩ := hrel
                  by_cases hlt : i < q
                  · by_cases hip : i < p
                    · obtain ⟨s, t, a0, a1, b0, b1⟩ := HD.out wr hB i (by omega)
                      go_wp2
                      go_quiet (fail)
                      go_wp2
                      go_roundw
                      case rel => exact ⟨i + 1, by omega, by go_num, below_drewN hB _⟩
                      case measure => simp [intOf]; omega
                    · obtain ⟨s, t, a0, a1, b0, b1⟩ := HU.out wr hB i (by omega) (by omega)
                      go_wp2
                      go_quiet (fail)
                      go_wp2
                      go_roundw
                      case rel => exact ⟨i + 1, by omega, by go_num, below_drewN hB _⟩
                      case measure => simp [intOf]; omega
                  · go_wp2
                    go_ret
                    exact ⟨rfl, hBB.trans (hB.mono hBB.size)⟩
          · obtain ⟨f0, f1⟩ := HF.out he
            clear HF
            go_wp2
            go_loopw [18] (fun s wr => ∃ i : Nat, i ≤ j + 1 ∧ s = .int .i64 i ∧ Below w9.heap.size w9 wr) (fun s _ => j + 1 - (intOf s).toNat)
            case atStart => exact ⟨0, Nat.zero_le _, rfl, Below.refl _ _⟩
            case round =>
              obtain ⟨i, hi, rfl, hB⟩ := hrel
              by_cases hlt : i < j + 1
              · obtain ⟨s, t, a0, a1, b0, b1⟩ := HS.out wr hB i hlt
                go_wp2
                go_quiet (fail)
                go_wp2
                go_roundw
                case rel => exact ⟨i + 1, by omega, by go_num, below_drewN hB _⟩
                case measure => simp [intOf]; omega
              · obtain ⟨u0, u1⟩ := HP.out wr hB
                obtain ⟨_, y0, y1⟩ := HX.out wr hB
                go_wp2
                go_quiet (fail)
                go_wp2
                have hBo := below_drewN hB nq
                clear hB u0 u1 y0 y1
                obtain ⟨wo, rfl⟩ : ∃ wo : World, wo = wr := ⟨_, rfl⟩
                go_loopw [20] (fun s wr => ∃ i : Nat, i ≤ q ∧ s = .int .i64 i ∧ Below w9.heap.size w9 wr) (fun s _ => q - (intOf s).toNat)
                case atStart => exact ⟨0, Nat.zero_le _, rfl, hBo⟩
                case round =>
                  clear hBo
                  obtain ⟨i, hi, rfl, hB⟩ := hrel
                  by_cases hlt : i < q
                  · by_cases hip : i < p
                    · obtain ⟨s, t, a0, a1, b0, b1⟩ := HD.out wr hB i (by omega)
                      go_wp2
                      go_quiet (fail)
                      go_wp2
                      go_roundw
                      case rel => exact ⟨i + 1, by omega, by go_num, below_drewN hB _⟩
                      case measure => simp [intOf]; omega
                    · obtain ⟨s, t, a0, a1, b0, b1⟩ := HU.out wr hB i (by omega) (by omega)
                      go_wp2
                      go_quiet (fail)
                      go_wp2
                      go_roundw
                      case rel => exact ⟨i + 1, by omega, by go_num, below_drewN hB _⟩
                      case measure => simp [intOf]; omega
                  · go_wp2
                    go_ret
                    exact ⟨rfl, hBB.trans (hB.mono hBB.size)⟩

end Go.Proofs.Qxb6630294a
