import Derived.Test.Qxb6630294aW3
namespace Go.Proofs.Qxb6630294a
open Go.RowKit

theorem Lies.ofEmpty {w : World} {ao : Option Addr} {L : List Msg} (h : L.length ≤ 0) : Lies w ao L := fun i hi => by omega

set_option maxHeartbeats 1000000 in
theorem f3_none (ctx content : ByteArray) (n c : Nat) (k0 : Int) (L : List Msg) (w : World) (hL : L.length = n) (hn : n ≤ 9223372036854775807) (hc : n ≤ c) (HC0 : Hid (c ≤ 0)) (hl : Lies w none L)
    (l : Nat) (hlen : (lead ctx).length = l) (hcase : (l = 0 ∧ ctx.toList.isEmpty = true) ∨ (l = 1 ∧ ctx.toList.isEmpty = false)) :
    Calls Try.prog 3 #[.string ctx, .slice none n c, .string content, .int .i64 k0] w fun e w' => e = .returned (.bool true) ∧ Below w.heap.size w w' := by
  go_enter Try.func3, Try.ntmps3
  go_wp2_with fail
  refine (f5_any ctx content none n c k0 L w hL hn hl).mono ?_
  rintro e w' ⟨⟨b, rfl⟩, rfl⟩
  cases b
  · go_wp2_with fail
    go_ret
    exact ⟨rfl, Below.refl _ _⟩
  go_wp2_with fail
  refine (f6_any ctx content none n c (⟨#[]⟩, ⟨#[]⟩) L w' hL hn hl).mono ?_
  rintro e w1 ⟨hf, hB1⟩
  rcases hf with rfl | ⟨rfl, hn2⟩
  · go_wp2_with fail
    go_ret
    exact ⟨rfl, hB1⟩
  by_cases hk0 : k0 < 0
  · go_wp2_with fail
    go_ret
    exact ⟨rfl, hB1⟩
  by_cases hk1 : (n : Int) < k0
  · go_wp2_with fail
    go_ret
    exact ⟨rfl, hB1⟩
  obtain ⟨k, rfl⟩ := Int.eq_ofNat_of_zero_le (show 0 ≤ k0 by omega)
  have hl1 := hl.below hB1
  have hk : k ≤ n := by omega
  have hz1 := hB1.size
  clear hk0 hk1
  go_wp2_with fail
  refine (f8_any none n c L w1 hL (by omega) hl1 (fun _ => by have := HC0.out; omega)).mono ?_
  rintro e w2 ⟨v2, c2, rfl, hv2, hB2⟩
  have hz2 := hB2.size
  have HM1 : Hid _ := msgs_len hlen L content
  have HM2 : Hid _ := msgs_len hlen (L.take k) content
  have HM3 : Hid _ := msgs_len (show (lead ⟨#[]⟩).length = 0 by simp [lead]) (L.drop k) content
  have HL : Hid _ := hL
  have HN : Hid _ := hlen
  clear hlen hL
  go_wp2_with fail
  refine (f7_len ctx content v2 n c2 (n + 1 + l) L w2 HL.out (by omega) hv2 (by rw [HM1.out, HL.out])).mono ?_
  rintro e w3 ⟨g3, c3, rfl, hW, hB3⟩
  have hz3 := hB3.size
  have hl3 := (hl1.below hB2).below hB3
  go_wp2_with fail
  refine (f8_any none k c (L.take k) w3 (by rw [List.length_take, HL.out]; omega) (by omega) (hl3.take k) (fun _ => by have := HC0.out; omega)).mono ?_
  rintro e w4 ⟨v4, c4, rfl, hv4, hB4⟩
  have hz4 := hB4.size
  go_wp2_with fail
  refine (f7_len ctx content v4 k c4 (k + 1 + l) (L.take k) w4 (by rw [List.length_take, HL.out]; omega) (by omega) hv4 (by rw [HM2.out, List.length_take, HL.out, Nat.min_eq_left hk])).mono ?_
  rintro e w5 ⟨g5, c5, rfl, hH, hB5⟩
  have hz5 := hB5.size
  have hl5 := (hl3.below hB4).below hB5
  go_wp2_with fail
  all_goals
    refine (f8_any none (n - k) _ (L.drop k) w5 (by rw [List.length_drop, HL.out]) (by omega) (Lies.ofEmpty (by rw [List.length_drop, HL.out]; have := HC0.out; omega)) (fun _ => by have := HC0.out; omega)).mono ?_
    rintro e w6 ⟨v6, c6, rfl, hv6, hB6⟩
    have hz6 := hB6.size
    go_wp2_with fail
    refine (f7_len ⟨#[]⟩ content v6 (n - k) c6 (n - k + 1) (L.drop k) w6 (by rw [List.length_drop, HL.out]) (by omega) hv6 (by rw [HM3.out, List.length_drop, HL.out])).mono ?_
    rintro e w7 ⟨g7, c7, rfl, hT, hB7⟩
    have hz7 := hB7.size
    have hW' := (((hW.below hB4).below hB5).below hB6).below hB7
    have hH' := (hH.below hB6).below hB7
    have hBB : Below w'.heap.size w' w7 := ((((((hB1.trans (hB2.mono (by omega))).trans (hB3.mono (by omega))).trans (hB4.mono (by omega))).trans (hB5.mono (by omega))).trans (hB6.mono (by omega))).trans (hB7.mono (by omega)))
    clear hB1 hB2 hB3 hB4 hB5 hB6 hB7 hl hl1 hl3 hl5 hv2 hv4 hv6 hW hH hz1 hz2 hz3 hz4 hz5 hz6 hz7
    have HA : Hid (∀ wx, Below w7.heap.size w7 wx → ∀ i, i < k + l → SameAt wx g3 i g5 i) := fun wx hx i hi => by
      obtain ⟨m, h1, h2⟩ := split_head ctx content L k l HN.out (by rw [HL.out]; omega) i hi
      exact sameAt (hW'.below hx) (hH'.below hx) i i m h1 h2
    have HT : Hid (∀ wx, Below w7.heap.size w7 wx → ∀ i, i < n - k + 1 → SameAt wx g3 (k + l + i) g7 i) := fun wx hx i hi => by
      obtain ⟨m, h1, h2⟩ := split_rest ctx content L k l HN.out (by rw [HL.out]; omega) i (by rw [HL.out]; omega)
      exact sameAt (hW'.below hx) (hT.below hx) (k + l + i) i m h1 h2
    have hU := hW'.at (n + l) (userMsg content) (by rw [← HL.out]; exact split_last ctx content L l HN.out)
    obtain ⟨q0, q1⟩ := hU
    simp only [userMsg] at q0 q1
    clear hW' hH' hT HL HN HM1 HM2 HM3
    have hdk : (↑(n - k) + 1 : Int) = ↑n - ↑k + 1 := by omega
    have htl : ((↑(n - k) + 1 : Int) != ↑n - ↑k + 1) = false := by rw [hdk]; simp
    clear hdk
    obtain ⟨p, hp1, hp2⟩ : ∃ p : Nat, p ≤ k + l ∧ k + l ≤ p := ⟨_, Nat.le_refl _, Nat.le_refl _⟩
    rcases hcase with ⟨rfl, he⟩ | ⟨rfl, he⟩
    all_goals
      try simp only [Nat.add_zero] at q0 q1 HA HT hp1 hp2
      go_wp2
      go_loopw [15] (fun s wr => ∃ i : Nat, i ≤ p ∧ s = .int .i64 i ∧ Below w7.heap.size w7 wr) (fun s _ => p - (intOf s).toNat)
      case atStart => exact ⟨0, Nat.zero_le _, rfl, (Below.refl _ _).alloc (Nat.le_refl _) _⟩
      case round =>
        obtain ⟨i, hi, rfl, hB⟩ := hrel
        by_cases hlt : i < p
        · obtain ⟨s, t, a0, a1, b0, b1⟩ := HA.out wr hB i (by omega)
          go_wp2
          go_quiet (fail)
          go_wp2
          go_roundw
          case rel => exact ⟨i + 1, by omega, by go_num, below_drewN hB _⟩
          case measure => simp [intOf]; omega
        · go_wp2
          obtain ⟨wo, rfl⟩ : ∃ wo : World, wo = wr := ⟨_, rfl⟩
          go_loopw [16] (fun s wr => ∃ i : Nat, i ≤ n - k + 1 ∧ s = .int .i64 i ∧ Below w7.heap.size w7 wr) (fun s _ => n - k + 1 - (intOf s).toNat)
          case atStart => exact ⟨0, Nat.zero_le _, rfl, hB⟩
          case round =>
            clear hB
            obtain ⟨i, hi, rfl, hB⟩ := hrel
            by_cases hlt : i < n - k + 1
            · obtain ⟨s, t, a0, a1, b0, b1⟩ := HT.out wr hB i hlt
              go_wp2
              go_quiet (fail)
              go_wp2
              go_roundw
              case rel => exact ⟨i + 1, by omega, by go_num, below_drewN hB _⟩
              case measure => simp [intOf]; omega
            · go_wp2
              go_ret
              exact ⟨rfl, hBB.trans (hB.mono hBB.size)⟩
end Go.Proofs.Qxb6630294a
