import Derived.Test.Qxb6630433aRows
import Derived.Test.Qxb6630433aPlain
import Derived.WalkKit
import Derived.WalkSpells
import Derived.WalkLawsBesides
import Derived.ChangeAlike
import Derived.Deep.QuietTactic
import Derived.BigQuiet
import Derived.Lib.SliceRun
namespace Go.Proofs.Qxb6630433a
open Go.RowKit

theorem named {α : Type} (a : α) : ∃ x, Hid (a = x) := ⟨a, (rfl : a = a)⟩

/-- The cells of a row of ints. -/
def iarr (T : List Int) : Array Value := (T.map (Value.int .i64)).toArray
theorem iarr_get (T : List Int) (i : Nat) (h : i < T.length) : (iarr T)[i]? = some (.int .i64 (T.getD i 0)) := by simp [iarr, h]
theorem iarr_set (T : List Int) (i : Nat) (x : Int) : (iarr T).setIfInBounds i (.int .i64 x) = iarr (T.set i x) := by simp [iarr]

/-- Block g is a row of ints, the numbers T, not frozen. -/
def IRow (w : World) (g : Nat) (T : List Int) : Prop := w.heap[g]? = some (.cells (iarr T) 3 (0, 0))

theorem IRow.cell {w : World} {g : Nat} {T : List Int} (h : IRow w g T) (i : Nat) (hi : i < T.length) : w.cell? ⟨g, i, none⟩ = some (.int .i64 (T.getD i 0)) := by
  unfold IRow at h
  simp only [World.cell?, h]
  exact iarr_get T i hi
theorem IRow.frozen {w : World} {g : Nat} {T : List Int} (h : IRow w g T) (i : Nat) : w.frozen? ⟨g, i, none⟩ = false := by
  unfold IRow at h
  simp [World.frozen?, h]
theorem IRow.lt {w : World} {g : Nat} {T : List Int} (h : IRow w g T) : g < w.heap.size := (Array.getElem?_eq_some_iff.1 h).1
theorem IRow.of_block {w w' : World} {g : Nat} {T : List Int} (h : IRow w g T) (e : w'.heap[g]? = w.heap[g]?) : IRow w' g T := e.trans h
theorem IRow.set {w : World} {g : Nat} {T : List Int} (h : IRow w g T) (i : Nat) (x : Int) : IRow (w.setCell ⟨g, i, none⟩ (.int .i64 x)) g (T.set i x) := by
  unfold IRow at h ⊢
  rw [← iarr_set]
  simp [World.setCell, Array.getElem?_modify, h]
theorem IRow.other {w : World} {g : Nat} {T : List Int} (h : IRow w g T) {a : Addr} (ha : g ≠ a.block) (v : Value) : IRow (w.setCell a v) g T := h.of_block (Below.heap_setCell _ _ _ _ ha)
theorem IRow.alloc {w : World} {g : Nat} {T : List Int} (h : IRow w g T) (o : Obj) : IRow (w.alloc o) g T := h.of_block (Below.heap_alloc _ _ _ h.lt)
theorem IRow.below {w w' : World} {g : Nat} {T : List Int} (h : IRow w g T) (hb : Below w.heap.size w w') : IRow w' g T := h.of_block (hb.block g h.lt)
theorem IRow.grown {w w' : World} {g : Nat} {T : List Int} {r : Option Nat} (h : IRow w g T) (hb : w.grownBy w' r) (hne : some g ≠ r) : IRow w' g T := h.of_block (hb.block g h.lt hne)
theorem IRow.drewN {w : World} {g : Nat} {T : List Int} (h : IRow w g T) (q : Nat) : IRow (w.drewN q) g T := h

/-- The ints L lie at the address, in a block that is there. -/
def LiesI (w : World) (ao : Option Addr) (L : List Int) : Prop :=
  ∀ i (h : i < L.length), ∃ b of, ao = some ⟨b, of, none⟩ ∧ b < w.heap.size ∧ w.cell? ⟨b, of + i, none⟩ = some (.int .i64 L[i])
theorem LiesI.below {w w' : World} {ao : Option Addr} {L : List Int} (h : LiesI w ao L) (hb : Below w.heap.size w w') : LiesI w' ao L := by
  intro i hi
  obtain ⟨b, o, e, hlt, h0⟩ := h i hi
  exact ⟨b, o, e, Nat.lt_of_lt_of_le hlt hb.size, (hb.cell (p := ⟨b, o + i, none⟩) hlt).trans h0⟩
theorem IRow.lies {w : World} {g : Nat} {T : List Int} (h : IRow w g T) : LiesI w (some ⟨g, 0, none⟩) T := by
  intro i hi
  refine ⟨g, 0, rfl, h.lt, ?_⟩
  rw [Nat.zero_add, h.cell i hi]
  simp [hi]
theorem LiesI.take {w : World} {ao : Option Addr} {L : List Int} (h : LiesI w ao L) (m : Nat) : LiesI w ao (L.take m) := by
  intro i hi
  have h' : i < m ∧ i < L.length := by rw [List.length_take] at hi; omega
  obtain ⟨b, o, e, hlt, h0⟩ := h i h'.2
  exact ⟨b, o, e, hlt, by simpa using h0⟩

theorem irow_made {w' : World} {base g n : Nat} (h : w'.ownsRow base 3 1 (.slice (some ⟨g, 0, none⟩) n n) n (madeCells (Value.int .i64 0).cells (n * 1)).toList) : IRow w' g (List.replicate n 0) := by
  rcases h.2 with ⟨e, _⟩ | ⟨g', cap, cur, e, _, hh, _, _, hsz, ht⟩
  · cases e
  · cases e
    unfold IRow
    rw [hh]
    rw [List.take_of_length_le (by simp [hsz])] at ht
    have e1 : (Value.int .i64 0).cells = #[Value.int .i64 0] := rfl
    rw [e1, Nat.mul_one, toList_madeCells_one] at ht
    have e2 : cur = iarr (List.replicate n 0) := by
      apply Array.toList_inj.1
      rw [ht]
      simp [iarr]
    rw [e2]

theorem Try.info3 : (Try.prog.info? 3).map (fun i => (i.zero, i.size, i.bytes)) = some (some (.int .i64 0), 1, 8) := by kernel_rfl

theorem take_step {T L : List Int} {j : Nat} (hj : j < L.length) (hjT : j < T.length) (h : T.take j = L.take j) : (T.set j L[j]).take (j + 1) = L.take (j + 1) := by
  rw [List.take_succ_eq_append_getElem (by simpa using hjT), List.take_succ_eq_append_getElem hj, List.take_set_of_le (by omega), h]
  simp

/-! ### The small functions -/
theorem z5 (ao : Option Addr) (n c : Nat) (w : World) (h : n ≤ 1048576) : Calls Try.prog 5 #[.slice ao n c] w fun e w' => e = .returned (.bool true) ∧ w' = w := by
  go_enter Try.func5, Try.ntmps5
  go_wp2
  go_ret
  exact ⟨rfl, rfl⟩
theorem z5_not (ao : Option Addr) (n c : Nat) (w : World) (h : ¬ n ≤ 1048576) : Calls Try.prog 5 #[.slice ao n c] w fun e w' => e = .returned (.bool false) ∧ w' = w := by
  go_enter Try.func5, Try.ntmps5
  go_wp2
  go_ret
  exact ⟨rfl, rfl⟩
theorem z12 (ao : Option Addr) (n c : Nat) (w : World) (h : n ≤ 1048576) : Calls Try.prog 12 #[.slice ao n c] w fun e w' => e = .returned (.bool true) ∧ w' = w := by
  go_enter Try.func12, Try.ntmps12
  go_wp2
  go_ret
  exact ⟨rfl, rfl⟩
theorem z12_not (ao : Option Addr) (n c : Nat) (w : World) (h : ¬ n ≤ 1048576) : Calls Try.prog 12 #[.slice ao n c] w fun e w' => e = .returned (.bool false) ∧ w' = w := by
  go_enter Try.func12, Try.ntmps12
  go_wp2
  go_ret
  exact ⟨rfl, rfl⟩

/-- 'ZZnewHeap': a new block that holds the slice. -/
theorem f8_any (v : Option Addr) (n c : Nat) (w : World) : Calls Try.prog 8 #[.slice v n c] w fun e w' => e = .returned (.pointer (some ⟨w.heap.size, 0, none⟩)) ∧ w' = w.alloc (.cells #[.slice v n c] 30) := by
  go_enter Try.func8, Try.ntmps8
  go_wp2
  go_ret
  exact ⟨rfl, rfl⟩

/-- 'ZZints': the slice that the heap holds. -/
theorem f10_any (g : Nat) (v : Option Addr) (n c : Nat) (w : World) (h : w.cell? ⟨g, 0, none⟩ = some (.slice v n c)) : Calls Try.prog 10 #[.pointer (some ⟨g, 0, none⟩)] w fun e w' => e = .returned (.slice v n c) ∧ w' = w := by
  go_enter Try.func10, Try.ntmps10
  go_wp2
  go_ret
  exact ⟨rfl, rfl⟩

/-- What 'isHeapOrdered' answers. -/
def SaysHp (L : List Int) (e : Ending) : Prop := (e = .returned (.bool true) ∧ Plain.Hp L) ∨ (e = .returned (.bool false) ∧ ¬ Plain.Hp L)
theorem saysYes {L : List Int} (h : Plain.Hp L) : SaysHp L (.returned (.bool true)) := .inl ⟨rfl, h⟩
theorem saysNo {L : List Int} (h : ¬ Plain.Hp L) : SaysHp L (.returned (.bool false)) := .inr ⟨rfl, h⟩

set_option maxHeartbeats 1000000 in
theorem f6_any (ao : Option Addr) (n c : Nat) (L : List Int) (w : World) (hL : L.length = n) (hn : n ≤ 1048576) (hl : LiesI w ao L) :
    Calls Try.prog 6 #[.slice ao n c] w fun e w' => SaysHp L e ∧ Below w.heap.size w w' := by
  have HL : Hid (L.length = n) := hL
  clear hL
  go_enter Try.func6, Try.ntmps6
  go_wp2
  go_loopw [3] (fun i wr => ∃ k : Nat, 1 ≤ k ∧ (k ≤ n ∨ k = 1) ∧ i = .int .i64 k ∧ (∀ j, 1 ≤ j → j < k → L.getD ((j - 1) / 2) 0 ≤ L.getD j 0) ∧ Below w.heap.size w wr) (fun i _ => n - (intOf i).toNat)
  case atStart => exact ⟨1, Nat.le_refl _, .inr rfl, rfl, fun j h1 h2 => by omega, Below.refl _ _⟩
  case round =>
    obtain ⟨k, hk1, hk2, rfl, hp, hB⟩ := hrel
    have HP : Hid (∀ j, 1 ≤ j → j < k → L.getD ((j - 1) / 2) 0 ≤ L.getD j 0) := hp
    clear hp
    by_cases hlt : k < n
    · have hkL : k < L.length := by rw [HL.out]; omega
      have hqL : (k - 1) / 2 < L.length := by rw [HL.out]; omega
      obtain ⟨b, of, rfl, _, g0⟩ := (hl.below hB) k hkL
      obtain ⟨b', of', e', _, g1⟩ := (hl.below hB) ((k - 1) / 2) hqL
      cases e'
      obtain ⟨x, HX⟩ := named L[k]
      obtain ⟨y, HY⟩ := named L[(k - 1) / 2]
      rw [HX.out] at g0
      rw [HY.out] at g1
      have ex : L.getD k 0 = x := by rw [← HX.out]; simp [hkL]
      have ey : L.getD ((k - 1) / 2) 0 = y := by rw [← HY.out]; simp [hqL]
      have HE : Hid (L.getD k 0 = x ∧ L.getD ((k - 1) / 2) 0 = y) := ⟨ex, ey⟩
      clear ex ey
      by_cases hxy : x < y
      · have HF : Hid (¬ Plain.Hp L) := fun hh => by
          have := hh k hk1 hkL
          rw [HE.out.1, HE.out.2] at this
          omega
        go_wp2
        go_quiet (fail)
        go_wp2
        go_ret
        exact ⟨saysNo HF.out, below_drewN hB _⟩
      · go_wp2
        go_quiet (fail)
        go_wp2
        go_roundw
        case rel =>
          refine ⟨k + 1, by omega, by omega, by go_num, fun j h1 h2 => ?_, below_drewN hB _⟩
          by_cases hjk : j = k
          · subst hjk
            rw [HE.out.1, HE.out.2]
            omega
          · exact HP.out j h1 (by omega)
        case measure => simp [intOf]; omega
    · go_wp2
      go_ret
      refine ⟨saysYes ?_, hB⟩
      intro j h1 h2
      rw [HL.out] at h2
      exact HP.out j h1 (by omega)

set_option maxHeartbeats 400000 in
theorem f7_nil (w : World) : Calls Try.prog 7 #[.slice none 0 0] w fun e w' => e = .returned (.slice none 0 0) ∧ w' = w := by
  have q22 : ∀ (w : World) (a : Option Addr) (n c n' c' : Nat), (binOp .eql 22 (.slice a n c) (.slice none n' c')).run Try.prog w = .ok (.bool a.isNone) w := fun w a n c n' c' => Lib.run_eql_slice_nil w _ _ a n c n' c' Try.underlying22
  go_enter Try.func7, Try.ntmps7
  go_wp2
  go_ret
  exact ⟨rfl, rfl⟩

set_option maxHeartbeats 1000000 in
/-- 'cloneInts': the same ints in a new row. -/
theorem f7_any (ad : Addr) (n c : Nat) (L : List Int) (w : World) (hL : L.length = n) (hn : n ≤ 1048576) (hl : LiesI w (some ad) L) :
    Calls Try.prog 7 #[.slice (some ad) n c] w fun e w' => e = .returned (.slice (some ⟨w.heap.size, 0, none⟩) n n) ∧ IRow w' w.heap.size L ∧ Below w.heap.size w w' := by
  have q22 : ∀ (w : World) (a : Option Addr) (n c n' c' : Nat), (binOp .eql 22 (.slice a n c) (.slice none n' c')).run Try.prog w = .ok (.bool a.isNone) w := fun w a n c n' c' => Lib.run_eql_slice_nil w _ _ a n c n' c' Try.underlying22
  obtain ⟨i0, hi, hz0, hz1, hz2⟩ := info_parts Try.info3
  have HL : Hid (L.length = n) := hL
  clear hL
  go_enter Try.func7, Try.ntmps7
  go_wp2_with (at_make; refine wpList_make_full _ rfl _ _ 22 rfl w.heap.size 3 i0 (.int .i64 0) 1 Try.underlying22 hi hz0 hz1 _ _ _ _ n rfl rfl rfl rfl (by rw [hz2]; omega) (by unfold maxLen; omega) (Nat.le_refl _) ?_; intro w0 hown0 hgrow0)
  have hR0 := irow_made hown0
  have hB0 : Below w.heap.size w w0 := (Below.refl _ _).grown hgrow0 (Nat.le_refl _) (fun k h => by cases h)
  go_loopw [4] (fun i wr => ∃ (j : Nat) (T : List Int), j ≤ n ∧ i = .int .i64 j ∧ IRow wr w.heap.size T ∧ T.length = n ∧ T.take j = L.take j ∧ Below w.heap.size w wr) (fun i _ => n - (intOf i).toNat)
  case atStart => exact ⟨0, _, Nat.zero_le _, rfl, hR0, by simp, by simp, hB0⟩
  case round =>
    clear hown0 hgrow0 hR0 hB0
    obtain ⟨j, T, hj, rfl, hT, hTl, htk, hB⟩ := hrel
    have HT : Hid (T.length = n ∧ T.take j = L.take j) := ⟨hTl, htk⟩
    clear hTl htk
    by_cases hlt : j < n
    · have hjL : j < L.length := by rw [HL.out]; omega
      obtain ⟨b, of, e, _, g0⟩ := (hl.below hB) j hjL
      cases e
      have t1 := hT.cell j (by rw [HT.out.1]; omega)
      have t2 := hT.frozen j
      go_wp2
      go_roundw
      case rel => exact ⟨j + 1, _, by omega, by go_num, hT.set j _, by simp [HT.out.1], take_step hjL (by rw [HT.out.1]; omega) HT.out.2, hB.setCell (Nat.le_refl _) _⟩
      case measure => simp [intOf]; omega
    · obtain rfl : j = n := by omega
      have e := HT.out.2
      rw [List.take_of_length_le (by rw [HT.out.1]; omega), List.take_of_length_le (by rw [HL.out]; omega)] at e
      have HE : Hid _ := e
      clear e
      go_wp2
      go_ret
      exact ⟨rfl, HE.out ▸ hT, hB⟩

end Go.Proofs.Qxb6630433a
