import Derived.Test.Qxb6630294aW7
import Derived.Test.Qxb6630294aW5
import Derived.Deep.QuietTactic
import Derived.BigQuiet
namespace Go.Proofs.Qxb6630294a
open Go.RowKit

theorem Lies.take {w : World} {ao : Option Addr} {L : List Msg} (h : Lies w ao L) (k : Nat) : Lies w ao (L.take k) := by
  intro i hi
  have h' : i < k ∧ i < L.length := by rw [List.length_take] at hi; omega
  obtain ⟨b, o, e, hlt, h0, h1⟩ := h i h'.2
  exact ⟨b, o, e, hlt, by simpa using h0, by simpa using h1⟩

theorem Lies.drop {w : World} {ad : Addr} {L : List Msg} (h : Lies w (some ad) L) (k : Nat) : Lies w (some (ad.add (k * 2))) (L.drop k) := by
  intro i hi
  have h' : k + i < L.length := by simp at hi; omega
  obtain ⟨b, o, e, hlt, h0, h1⟩ := h (k + i) h'
  cases e
  refine ⟨b, o + k * 2, by rw [Addr.add_lit], hlt, ?_, ?_⟩
  · rw [show o + k * 2 + i * 2 = o + (k + i) * 2 from by omega]; simpa using h0
  · rw [show o + k * 2 + i * 2 + 1 = o + (k + i) * 2 + 1 from by omega]; simpa using h1

theorem Lies.tail {w : World} {ad ad' : Addr} {L : List Msg} (h : Lies w (some ad) L) (k : Nat) (e : ad' = ad.add (k * 2) ∨ L.length ≤ k) : Lies w (some ad') (L.drop k) := by
  rcases e with rfl | e
  · exact h.drop k
  · intro i hi
    simp at hi
    omega

theorem f7_len (ctx content : ByteArray) (ao : Option Addr) (n cap m : Nat) (L : List Msg) (w : World) (hL : L.length = n) (hn : n ≤ 100000) (hl : Lies w ao L) (hm : (msgs ctx L content).length = m) :
    Calls Try.prog 7 #[.agg #[.string ctx, .slice ao n cap, .string content]] w fun e w' =>
      ∃ g c', e = .returned (.slice (some ⟨g, 0, none⟩) m c') ∧ Lies w' (some ⟨g, 0, none⟩) (msgs ctx L content) ∧ Below w.heap.size w w' := by
  subst hm
  exact f7_any ctx content ao n cap L w hL hn hl

/-- Two rows of messages hold the same at two places. -/
def SameAt (w : World) (g i h j : Nat) : Prop :=
  ∃ s t : ByteArray, w.cell? ⟨g, i * 2, none⟩ = some (.string s) ∧ w.cell? ⟨g, i * 2 + 1, none⟩ = some (.string t) ∧ w.cell? ⟨h, j * 2, none⟩ = some (.string s) ∧ w.cell? ⟨h, j * 2 + 1, none⟩ = some (.string t)

theorem Lies.at {w : World} {g : Nat} {L : List Msg} (h : Lies w (some ⟨g, 0, none⟩) L) (i : Nat) (m : Msg) (hm : L[i]? = some m) : w.cell? ⟨g, i * 2, none⟩ = some (.string m.1) ∧ w.cell? ⟨g, i * 2 + 1, none⟩ = some (.string m.2) := by
  obtain ⟨hi, rfl⟩ := List.getElem?_eq_some_iff.1 hm
  obtain ⟨b, o, e, _, h0, h1⟩ := h i hi
  cases e
  exact ⟨by simpa using h0, by simpa using h1⟩

theorem sameAt {w : World} {g h : Nat} {L M : List Msg} (hg : Lies w (some ⟨g, 0, none⟩) L) (hh : Lies w (some ⟨h, 0, none⟩) M) (i j : Nat) (m : Msg) (h1 : L[i]? = some m) (h2 : M[j]? = some m) : SameAt w g i h j :=
  ⟨m.1, m.2, (hg.at i m h1).1, (hg.at i m h1).2, (hh.at j m h2).1, (hh.at j m h2).2⟩

/-! The plain law of the split. -/
section
variable (ctx content : ByteArray) (L : List Msg) (k l : Nat)

theorem split_whole : msgs ctx L content = (lead ctx ++ L.take k) ++ (L.drop k ++ [userMsg content]) := by
  simp only [msgs, List.append_assoc]
  rw [← List.append_assoc (L.take k), List.take_append_drop]

theorem split_tail : msgs ⟨#[]⟩ (L.drop k) content = L.drop k ++ [userMsg content] := by simp [msgs, lead]

theorem split_head (hl : (lead ctx).length = l) (hk : k ≤ L.length) (i : Nat) (hi : i < k + l) : ∃ m, (msgs ctx L content)[i]? = some m ∧ (msgs ctx (L.take k) content)[i]? = some m := by
  have hA : i < (lead ctx ++ L.take k).length := by simp [hl]; omega
  refine ⟨(lead ctx ++ L.take k)[i], ?_, ?_⟩
  · rw [split_whole ctx content L k, List.getElem?_append_left hA, List.getElem?_eq_getElem hA]
  · rw [msgs, List.getElem?_append_left hA, List.getElem?_eq_getElem hA]

theorem split_rest (hl : (lead ctx).length = l) (hk : k ≤ L.length) (i : Nat) (hi : i < L.length - k + 1) : ∃ m, (msgs ctx L content)[k + l + i]? = some m ∧ (msgs ⟨#[]⟩ (L.drop k) content)[i]? = some m := by
  have hA : (lead ctx ++ L.take k).length = k + l := by simp [hl]; omega
  have hB : i < (L.drop k ++ [userMsg content]).length := by simp; omega
  refine ⟨(L.drop k ++ [userMsg content])[i], ?_, ?_⟩
  · rw [split_whole ctx content L k, List.getElem?_append_right (by omega), hA, show k + l + i - (k + l) = i from by omega, List.getElem?_eq_getElem hB]
  · rw [split_tail, List.getElem?_eq_getElem hB]

theorem split_last (hl : (lead ctx).length = l) : (msgs ctx L content)[L.length + l]? = some (userMsg content) := by
  have hA : (lead ctx ++ L).length = L.length + l := by simp [hl]; omega
  rw [msgs, List.getElem?_append_right (by omega), hA]
  simp
end

theorem msgs_len {ctx : ByteArray} {l : Nat} (h : (lead ctx).length = l) (L : List Msg) (content : ByteArray) : (msgs ctx L content).length = L.length + 1 + l := by
  simp [msgs, h]; omega

set_option maxHeartbeats 1000000 in
theorem f3_some (ctx content : ByteArray) (ad : Addr) (n c : Nat) (k0 : Int) (L : List Msg) (w : World) (hL : L.length = n) (hn : n ≤ 9223372036854775807) (hc : n ≤ c) (hl : Lies w (some ad) L)
    (l : Nat) (hlen : (lead ctx).length = l) (hcase : (l = 0 ∧ ctx.toList.isEmpty = true) ∨ (l = 1 ∧ ctx.toList.isEmpty = false)) :
    Calls Try.prog 3 #[.string ctx, .slice (some ad) n c, .string content, .int .i64 k0] w fun e w' => e = .returned (.bool true) ∧ Below w.heap.size w w' := by
  go_enter Try.func3, Try.ntmps3
  go_wp2_with fail
  refine (f5_any ctx content (some ad) n c k0 L w hL hn hl).mono ?_
  rintro e w' ⟨⟨b, rfl⟩, rfl⟩
  cases b
  · go_wp2_with fail
    go_ret
    exact ⟨rfl, Below.refl _ _⟩
  go_wp2_with fail
  refine (f6_any ctx content (some ad) n c (⟨#[]⟩, ⟨#[]⟩) L w' hL hn hl).mono ?_
  rintro e w1 ⟨hf, hB1⟩
  rcases hf with rfl | ⟨rfl, hn2⟩
  · go_wp2_with fail
    go_ret
    exact ⟨rfl, hB1⟩
  by_cases hk0 : k0 < 0
  · go_wp2_with fail
    go_ret
    exact ⟨rfl, hB1⟩
  by_cases hk1 : (n : Int) < k0
  · go_wp2_with fail
    go_ret
    exact ⟨rfl, hB1⟩
  obtain ⟨k, rfl⟩ := Int.eq_ofNat_of_zero_le (show 0 ≤ k0 by omega)
  have hl1 := hl.below hB1
  have hk : k ≤ n := by omega
  have hz1 := hB1.size
  clear hk0 hk1
  go_wp2_with fail
  refine (f8_any (some ad) n c L w1 hL (by omega) hl1 (fun h => by cases h)).mono ?_
  rintro e w2 ⟨v2, c2, rfl, hv2, hB2⟩
  have hz2 := hB2.size
  have HM1 : Hid _ := msgs_len hlen L content
  have HM2 : Hid _ := msgs_len hlen (L.take k) content
  have HM3 : Hid _ := msgs_len (show (lead ⟨#[]⟩).length = 0 by simp [lead]) (L.drop k) content
  have HL : Hid _ := hL
  have HN : Hid _ := hlen
  clear hlen hL
  go_wp2_with fail
  refine (f7_len ctx content v2 n c2 (n + 1 + l) L w2 HL.out (by omega) hv2 (by rw [HM1.out, HL.out])).mono ?_
  rintro e w3 ⟨g3, c3, rfl, hW, hB3⟩
  have hz3 := hB3.size
  have hl3 := (hl1.below hB2).below hB3
  go_wp2_with fail
  refine (f8_any (some ad) k c (L.take k) w3 (by rw [List.length_take, HL.out]; omega) (by omega) (hl3.take k) (fun h => by cases h)).mono ?_
  rintro e w4 ⟨v4, c4, rfl, hv4, hB4⟩
  have hz4 := hB4.size
  go_wp2_with fail
  refine (f7_len ctx content v4 k c4 (k + 1 + l) (L.take k) w4 (by rw [List.length_take, HL.out]; omega) (by omega) hv4 (by rw [HM2.out, List.length_take, HL.out, Nat.min_eq_left hk])).mono ?_
  rintro e w5 ⟨g5, c5, rfl, hH, hB5⟩
  have hz5 := hB5.size
  have hl5 := (hl3.below hB4).below hB5
  go_wp2_with fail
  all_goals
    refine (f8_any (some _) (n - k) _ (L.drop k) w5 (by rw [List.length_drop, HL.out]) (by omega) (hl5.tail k (by first | exact .inl rfl | (right; rw [HL.out]; omega))) (fun h => by cases h)).mono ?_
    rintro e w6 ⟨v6, c6, rfl, hv6, hB6⟩
    have hz6 := hB6.size
    go_wp2_with fail
    refine (f7_len ⟨#[]⟩ content v6 (n - k) c6 (n - k + 1) (L.drop k) w6 (by rw [List.length_drop, HL.out]) (by omega) hv6 (by rw [HM3.out, List.length_drop, HL.out])).mono ?_
    rintro e w7 ⟨g7, c7, rfl, hT, hB7⟩
    have hz7 := hB7.size
    have hW' := (((hW.below hB4).below hB5).below hB6).below hB7
    have hH' := (hH.below hB6).below hB7
    have hBB : Below w'.heap.size w' w7 := ((((((hB1.trans (hB2.mono (by omega))).trans (hB3.mono (by omega))).trans (hB4.mono (by omega))).trans (hB5.mono (by omega))).trans (hB6.mono (by omega))).trans (hB7.mono (by omega)))
    clear hB1 hB2 hB3 hB4 hB5 hB6 hB7 hl hl1 hl3 hl5 hv2 hv4 hv6 hW hH hz1 hz2 hz3 hz4 hz5 hz6 hz7
    have HA : Hid (∀ wx, Below w7.heap.size w7 wx → ∀ i, i < k + l → SameAt wx g3 i g5 i) := fun wx hx i hi => by
      obtain ⟨m, h1, h2⟩ := split_head ctx content L k l HN.out (by rw [HL.out]; omega) i hi
      exact sameAt (hW'.below hx) (hH'.below hx) i i m h1 h2
    have HT : Hid (∀ wx, Below w7.heap.size w7 wx → ∀ i, i < n - k + 1 → SameAt wx g3 (k + l + i) g7 i) := fun wx hx i hi => by
      obtain ⟨m, h1, h2⟩ := split_rest ctx content L k l HN.out (by rw [HL.out]; omega) i (by rw [HL.out]; omega)
      exact sameAt (hW'.below hx) (hT.below hx) (k + l + i) i m h1 h2
    have hU := hW'.at (n + l) (userMsg content) (by rw [← HL.out]; exact split_last ctx content L l HN.out)
    obtain ⟨q0, q1⟩ := hU
    simp only [userMsg] at q0 q1
    clear hW' hH' hT HL HN HM1 HM2 HM3
    have hdk : (↑(n - k) + 1 : Int) = ↑n - ↑k + 1 := by omega
    have htl : ((↑(n - k) + 1 : Int) != ↑n - ↑k + 1) = false := by rw [hdk]; simp
    clear hdk
    obtain ⟨p, hp1, hp2⟩ : ∃ p : Nat, p ≤ k + l ∧ k + l ≤ p := ⟨_, Nat.le_refl _, Nat.le_refl _⟩
    rcases hcase with ⟨rfl, he⟩ | ⟨rfl, he⟩
    all_goals
      try simp only [Nat.add_zero] at q0 q1 HA HT hp1 hp2
      go_wp2
      go_loopw [15] (fun s wr => ∃ i : Nat, i ≤ p ∧ s = .int .i64 i ∧ Below w7.heap.size w7 wr) (fun s _ => p - (intOf s).toNat)
      case atStart => exact ⟨0, Nat.zero_le _, rfl, (Below.refl _ _).alloc (Nat.le_refl _) _⟩
      case round =>
        obtain ⟨i, hi, rfl, hB⟩ := hrel
        by_cases hlt : i < p
        · obtain ⟨s, t, a0, a1, b0, b1⟩ := HA.out wr hB i (by omega)
          go_wp2
          go_quiet (fail)
          go_wp2
          go_roundw
          case rel => exact ⟨i + 1, by omega, by go_num, below_drewN hB _⟩
          case measure => simp [intOf]; omega
        · go_wp2
          obtain ⟨wo, rfl⟩ : ∃ wo : World, wo = wr := ⟨_, rfl⟩
          go_loopw [16] (fun s wr => ∃ i : Nat, i ≤ n - k + 1 ∧ s = .int .i64 i ∧ Below w7.heap.size w7 wr) (fun s _ => n - k + 1 - (intOf s).toNat)
          case atStart => exact ⟨0, Nat.zero_le _, rfl, hB⟩
          case round =>
            clear hB
            obtain ⟨i, hi, rfl, hB⟩ := hrel
            by_cases hlt : i < n - k + 1
            · obtain ⟨s, t, a0, a1, b0, b1⟩ := HT.out wr hB i hlt
              go_wp2
              go_quiet (fail)
              go_wp2
              go_roundw
              case rel => exact ⟨i + 1, by omega, by go_num, below_drewN hB _⟩
              case measure => simp [intOf]; omega
            · go_wp2
              go_ret
              exact ⟨rfl, hBB.trans (hB.mono hBB.size)⟩
end Go.Proofs.Qxb6630294a
