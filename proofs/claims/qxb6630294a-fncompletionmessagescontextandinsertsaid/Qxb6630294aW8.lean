import Derived.Test.Qxb6630294aBase
import Derived.Lib.SliceRun
namespace Go.Proofs.Qxb6630294a
open Go.RowKit

set_option maxHeartbeats 400000 in
theorem f8_nil (w : World) (n c : Nat) (hn : n = 0) :
    Calls Try.prog 8 #[.slice none n c] w fun e w' => e = .returned (.slice none 0 0) ∧ w' = w := by
  have q22 : ∀ (w : World) (a : Option Addr) (n c n' c' : Nat), (binOp .eql 22 (.slice a n c) (.slice none n' c')).run Try.prog w = .ok (.bool a.isNone) w := fun w a n c n' c' => Lib.run_eql_slice_nil w _ _ a n c n' c' Try.underlying22
  go_enter Try.func8, Try.ntmps8
  go_wp2
  go_ret
  exact ⟨rfl, rfl⟩

set_option maxHeartbeats 1000000 in
theorem f8_some (ad : Addr) (n c : Nat) (L : List Msg) (w : World) (hL : L.length = n) (hn : n ≤ 100000)
    (hb0 : 0 < n → ad.block < w.heap.size)
    (h0 : ∀ i (h : i < L.length), w.cell? (ad.add (i * 2)) = some (.string L[i].1)) (h1 : ∀ i (h : i < L.length), w.cell? (ad.add (i * 2 + 1)) = some (.string L[i].2)) :
    Calls Try.prog 8 #[.slice (some ad) n c] w fun e w' => e = .returned (.slice (some ⟨w.heap.size, 0, none⟩) n n) ∧ w'.ownsRow w.heap.size 38 2 (.slice (some ⟨w.heap.size, 0, none⟩) n n) n (flat L) ∧ Below w.heap.size w w' := by
  have q22 : ∀ (w : World) (a : Option Addr) (n c n' c' : Nat), (binOp .eql 22 (.slice a n c) (.slice none n' c')).run Try.prog w = .ok (.bool a.isNone) w := fun w a n c n' c' => Lib.run_eql_slice_nil w _ _ a n c n' c' Try.underlying22
  obtain ⟨i0, hi, hz0, hz1, hz2⟩ := info_parts Try.info38
  go_enter Try.func8, Try.ntmps8
  go_wp2_with (at_make; refine wpList_make_full _ rfl _ _ 29 rfl w.heap.size 38 i0 (.agg #[.string ⟨#[]⟩, .string ⟨#[]⟩]) 2 Try.underlying29 hi hz0 hz1 _ _ _ _ n rfl rfl rfl rfl ?b2 ?b3 (Nat.le_refl _) ?_)
  case b2 => rw [hz2]; omega
  case b3 => unfold maxLen; omega
  intro w0 hown0 hgrow0
  go_wp2
  go_loopw [4] (fun i wr => ∃ (k : Nat) (xs : List Value), k ≤ n ∧ i = .int .i64 k ∧ wr.ownsRow w.heap.size 38 2 (.slice (some ⟨w.heap.size, 0, none⟩) n n) n xs ∧ xs.take (k * 2) = flat (L.take k) ∧ Below w.heap.size w wr)
    (fun i _ => n - (intOf i).toNat)
  case atStart => exact ⟨0, _, Nat.zero_le _, rfl, hown0, by simp [flat], (Below.refl _ _).grown hgrow0 (Nat.le_refl _) (fun k h => by cases h)⟩
  case round =>
    obtain ⟨k, xs, hk, rfl, hown, hx, hnx⟩ := hrel
    have HX : Hid (xs.take (k * 2) = flat (L.take k)) := hx
    clear hx
    by_cases hlt : k < n
    · have hkL : k < L.length := by omega
      have hb := hb0 (by omega)
      obtain ⟨b, off, spot⟩ := ad
      have hspot : spot = none := by simpa [Addr.add] using World.cell?_spot (h0 0 (by omega))
      subst hspot
      have g0 : wr.cell? ⟨b, off + k * 2, none⟩ = some (.string L[k].1) := by
        have := h0 k hkL
        rw [Addr.add_lit] at this
        exact (hnx.cell (p := ⟨b, off + k * 2, none⟩) hb).trans this
      have g1 : wr.cell? ⟨b, off + k * 2 + 1, none⟩ = some (.string L[k].2) := by
        have := h1 k hkL
        rw [Addr.add_lit] at this
        exact (hnx.cell (p := ⟨b, off + (k * 2 + 1), none⟩) hb).trans this
      have hxl : xs.length = n * 2 := hown.1
      obtain ⟨o0, hc0⟩ : ∃ u, wr.cell? ⟨w.heap.size, k * 2, none⟩ = some u := ⟨xs[k * 2], by rw [hown.cellAt (k * 2) (by omega), List.getElem?_eq_getElem]⟩
      obtain ⟨o1, hc1⟩ : ∃ u, wr.cell? ⟨w.heap.size, k * 2 + 1, none⟩ = some u := ⟨xs[k * 2 + 1], by rw [hown.cellAt (k * 2 + 1) (by omega), List.getElem?_eq_getElem]⟩
      have hf0 := hown.frozenAt (k * 2)
      have hf1 := hown.frozenAt (k * 2 + 1)
      have R : ((wr.setCell ⟨w.heap.size, k * 2, none⟩ (.string L[k].1)).setCell ⟨w.heap.size, k * 2 + 1, none⟩ (.string L[k].2)).ownsRow w.heap.size 38 2 (.slice (some ⟨w.heap.size, 0, none⟩) n n) n ((xs.set (k * 2) (.string L[k].1)).set (k * 2 + 1) (.string L[k].2)) := ((hown.stored _ _).1.stored _ _).1
      have HR : Hid (((xs.set (k * 2) (.string L[k].1)).set (k * 2 + 1) (.string L[k].2)).take ((k + 1) * 2) = flat (L.take (k + 1))) := take_two xs L k hkL HX.out (by omega)
      clear hxl hown
      go_wp2
      go_region
      all_goals go_wp2
      all_goals
        go_roundw
        case rel => exact ⟨k + 1, _, by omega, by go_num, R.drew, HR.out, ((hnx.setCell (Nat.le_refl _) _).setCell (Nat.le_refl _) _).drew⟩
        case measure => simp [intOf]; omega
    · go_wp2
      go_ret
      obtain rfl : k = n := by omega
      have e := HX.out
      rw [List.take_of_length_le (by rw [hown.1]; omega), List.take_of_length_le (by omega)] at e
      exact ⟨rfl, e ▸ hown, hnx⟩
end Go.Proofs.Qxb6630294a
