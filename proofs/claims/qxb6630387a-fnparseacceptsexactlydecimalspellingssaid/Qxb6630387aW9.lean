import Derived.Test.Qxb6630387aParse
import Derived.Test.Qxb6630387aW8
namespace Go.Proofs.Qxb6630387a
open Go.RowKit

/-- Block g is a row of bytes, the numbers T, not frozen. -/
def BRow (w : World) (g : Nat) (T : List Int) : Prop := w.heap[g]? = some (.cells (arr T) 5 (0, 0))

theorem BRow.cell {w : World} {g : Nat} {T : List Int} (h : BRow w g T) (i : Nat) (hi : i < T.length) : w.cell? ⟨g, i, none⟩ = some (.int .u8 (T.getD i 0)) := by
  unfold BRow at h
  simp only [World.cell?, h]
  exact arr_get T i hi
theorem BRow.frozen {w : World} {g : Nat} {T : List Int} (h : BRow w g T) (i : Nat) : w.frozen? ⟨g, i, none⟩ = false := by
  unfold BRow at h
  simp [World.frozen?, h]
theorem BRow.lt {w : World} {g : Nat} {T : List Int} (h : BRow w g T) : g < w.heap.size := (Array.getElem?_eq_some_iff.1 h).1
theorem BRow.of_block {w w' : World} {g : Nat} {T : List Int} (h : BRow w g T) (e : w'.heap[g]? = w.heap[g]?) : BRow w' g T := e.trans h
theorem BRow.set {w : World} {g : Nat} {T : List Int} (h : BRow w g T) (i : Nat) (x : Int) : BRow (w.setCell ⟨g, i, none⟩ (.int .u8 x)) g (T.set i x) := by
  unfold BRow at h ⊢
  rw [← arr_set]
  simp [World.setCell, Array.getElem?_modify, h]
theorem BRow.other {w : World} {g : Nat} {T : List Int} (h : BRow w g T) {a : Addr} (ha : g ≠ a.block) (v : Value) : BRow (w.setCell a v) g T := h.of_block (Below.heap_setCell _ _ _ _ ha)
theorem BRow.alloc {w : World} {g : Nat} {T : List Int} (h : BRow w g T) (o : Obj) : BRow (w.alloc o) g T := h.of_block (Below.heap_alloc _ _ _ h.lt)
theorem BRow.below {w w' : World} {g : Nat} {T : List Int} (h : BRow w g T) (hb : Below w.heap.size w w') : BRow w' g T := h.of_block (hb.block g h.lt)
theorem BRow.lies {w : World} {g : Nat} {T : List Int} (h : BRow w g T) (hb : ∀ x ∈ T, 0 ≤ x ∧ x ≤ 255) : LiesB w (some ⟨g, 0, none⟩) T := by
  intro i hi
  refine ⟨⟨g, 0, rfl, h.lt, ?_⟩, hb _ (List.getElem_mem hi)⟩
  rw [Nat.zero_add, h.cell i hi]
  simp [hi]

theorem brow_made {w' : World} {base g n : Nat} (h : w'.ownsRow base 5 1 (.slice (some ⟨g, 0, none⟩) n n) n (madeCells (Value.int .u8 0).cells (n * 1)).toList) : BRow w' g (List.replicate n 0) := by
  rcases h.2 with ⟨e, _⟩ | ⟨g', cap, cur, e, _, hh, _, _, hsz, ht⟩
  · cases e
  · cases e
    unfold BRow
    rw [hh]
    rw [List.take_of_length_le (by simp [hsz])] at ht
    have e1 : (Value.int .u8 0).cells = #[Value.int .u8 0] := rfl
    rw [e1, Nat.mul_one, toList_madeCells_one] at ht
    have e2 : cur = arr (List.replicate n 0) := by
      apply Array.toList_inj.1
      rw [ht]
      simp [arr]
    rw [e2]

theorem Try.info5 : (Try.prog.info? 5).map (fun i => (i.zero, i.size, i.bytes)) = some (some (.int .u8 0), 1, 1) := by kernel_rfl

theorem put_step {T L : List Int} {p : Int} {j : Nat} (hT : T.length = L.length + 1) (hj : j < L.length) (h : T.take (j + 1) = p :: L.take j) : (T.set (j + 1) (L.getD j 0)).take (j + 1 + 1) = p :: L.take (j + 1) := by
  rw [List.take_succ_eq_append_getElem (by simp; omega), List.take_succ_eq_append_getElem hj, List.take_set_of_le (by omega), h]
  simp [hj]

set_option maxHeartbeats 1000000 in
/-- 'prefixed': a new row: p, then the bytes. -/
theorem f9_any (p : Int) (g n c : Nat) (L : List Int) (w : World) (hL : L.length = n) (hn : n ≤ 1000) (hs : BRow w g L) :
    Calls Try.prog 9 #[.int .u8 p, .slice (some ⟨g, 0, none⟩) n c] w fun e w' => e = .returned (.slice (some ⟨w.heap.size, 0, none⟩) (n + 1) (n + 1)) ∧ BRow w' w.heap.size (p :: L) ∧ Below w.heap.size w w' := by
  obtain ⟨i0, hi, hz0, hz1, hz2⟩ := info_parts Try.info5
  have HL : Hid (L.length = n) := hL
  have hg := hs.lt
  clear hL
  go_enter Try.func9, Try.ntmps9
  go_wp2_with (at_make; refine wpList_make_full _ rfl _ _ 22 rfl w.heap.size 5 i0 (.int .u8 0) 1 Try.underlying22 hi hz0 hz1 _ _ _ _ (n + 1) rfl rfl (by omega) (by omega) (by rw [hz2]; omega) (by unfold maxLen; omega) (Nat.le_refl _) ?_; intro w0 hown0 hgrow0; have hR0 := brow_made hown0; have r1 := hR0.cell 0 (by simp); have r2 := hR0.frozen 0)
  have hB0 : Below w.heap.size w w0 := (Below.refl _ _).grown hgrow0 (Nat.le_refl _) (fun k h => by cases h)
  go_loopw [6] (fun i wr => ∃ (j : Nat) (T : List Int), j ≤ n ∧ i = .int .i64 j ∧ BRow wr w.heap.size T ∧ T.length = n + 1 ∧ T.take (j + 1) = p :: L.take j ∧ Below w.heap.size w wr) (fun i _ => n - (intOf i).toNat)
  case atStart => exact ⟨0, _, Nat.zero_le _, rfl, hR0.set 0 p, by simp, by simp [List.replicate_succ], hB0.setCell (Nat.le_refl _) _⟩
  case round =>
    clear hown0 hgrow0 hR0 r1 r2 hB0
    obtain ⟨j, T, hj, rfl, hT, hTl, htk, hB⟩ := hrel
    have HT : Hid (T.length = n + 1 ∧ T.take (j + 1) = p :: L.take j) := ⟨hTl, htk⟩
    clear hTl htk
    by_cases hlt : j < n
    · have s1 := (hs.below hB).cell j (by rw [HL.out]; omega)
      have t1 := hT.cell (j + 1) (by rw [HT.out.1]; omega)
      have t2 := hT.frozen (j + 1)
      go_wp2
      go_roundw
      case rel => exact ⟨j + 1, _, by omega, by go_num, hT.set (j + 1) _, by simp [HT.out.1], put_step (by rw [HT.out.1, HL.out]) (by rw [HL.out]; omega) HT.out.2, hB.setCell (Nat.le_refl _) _⟩
      case measure => simp [intOf]; omega
    · obtain rfl : j = n := by omega
      have e := HT.out.2
      rw [List.take_of_length_le (by rw [HT.out.1]; omega), List.take_of_length_le (by rw [HL.out]; omega)] at e
      have HE : Hid _ := e
      clear e
      go_wp2
      go_ret
      exact ⟨rfl, HE.out ▸ hT, hB⟩

end Go.Proofs.Qxb6630387a
