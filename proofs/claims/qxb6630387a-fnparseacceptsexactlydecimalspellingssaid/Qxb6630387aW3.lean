import Derived.Test.Qxb6630387aW7
import Derived.Laws.CopyOwn
import Derived.Lib.SliceRun
namespace Go.Proofs.Qxb6630387a
open Go.RowKit

theorem z5 (ao : Option Addr) (n c : Nat) (w : World) (h : n ≤ 1048576) : Calls Try.prog 5 #[.slice ao n c] w fun e w' => e = .returned (.bool true) ∧ w' = w := by
  go_enter Try.func5, Try.ntmps5
  go_wp2
  go_ret
  exact ⟨rfl, rfl⟩
theorem z5_not (ao : Option Addr) (n c : Nat) (w : World) (h : ¬ n ≤ 1048576) : Calls Try.prog 5 #[.slice ao n c] w fun e w' => e = .returned (.bool false) ∧ w' = w := by
  go_enter Try.func5, Try.ntmps5
  go_wp2
  go_ret
  exact ⟨rfl, rfl⟩

open Plain in
theorem p_out (ao : Option Addr) (n c : Nat) (L : List Int) (o : Option Int) (w : World) (hL : L.length = n) (hc : n ≤ c) (h63 : n ≤ 9223372036854775807) (hl : LiesB w ao L) (ho : parse L = o) :
    Calls Try.prog 6 #[.slice ao n c] w fun e w' => e = .returned (.tuple #[.int .i64 (o.getD 0), .bool o.isSome]) ∧ Below w.heap.size w w' := by
  refine (p_any ao n c L w hL hc h63 hl).mono ?_
  rintro e w' ⟨rfl, q, rfl⟩
  exact ⟨by rw [ho]; rfl, below_drewN (Below.refl _ _) q⟩
open Plain in
theorem s_out (ao : Option Addr) (n c : Nat) (L : List Int) (o : Option Int) (w : World) (hL : L.length = n) (h63 : n ≤ 9223372036854775807) (hl : LiesB w ao L) (ho : parse L = o) :
    Calls Try.prog 7 #[.slice ao n c] w fun e w' => e = .returned (.tuple #[.int .i64 (o.getD 0), .bool o.isSome]) ∧ Below w.heap.size w w' := by
  refine (f7_any ao n c L w hL h63 hl).mono ?_
  rintro e w' ⟨rfl, hB⟩
  exact ⟨by rw [ho]; rfl, hB⟩

open Plain in
set_option maxHeartbeats 1000000 in
theorem f3_nil (w : World) : Calls Try.prog 3 #[.slice none 0 0] w fun e w' => e = .returned (.bool true) ∧ Below w.heap.size w w' := by
  have q22 : ∀ (w : World) (a : Option Addr) (n c n' c' : Nat), (binOp .neq 22 (.slice a n c) (.slice none n' c')).run Try.prog w = .ok (.bool !a.isNone) w := fun w a n c n' c' => run_neq_slice_nil_any w _ _ a n c n' c' Try.underlying22
  go_enter Try.func3, Try.ntmps3
  go_wp2_with fail
  refine (z5 none 0 0 w (by omega)).mono ?_
  rintro e w' ⟨rfl, rfl⟩
  go_wp2_with fail
  refine (p_out none 0 0 [] none w' rfl (Nat.le_refl _) (by omega) (fun i hi => by simp at hi) rfl).mono ?_
  rintro e w1 ⟨rfl, hB1⟩
  go_wp2_with fail
  refine (s_out none 0 0 [] none w1 rfl (by omega) (fun i hi => by simp at hi) rfl).mono ?_
  rintro e w2 ⟨rfl, hB2⟩
  have hBB := hB1.trans (hB2.mono hB1.size)
  go_wp2_with fail
  go_ret
  exact ⟨rfl, hBB⟩

theorem Try.size5 : (Try.prog.info? 5).map (·.size) = some 1 := by kernel_rfl

theorem brow_spliced {w : World} {g : Nat} {L : List Int} (h : w.heap[g]? = some (.cells (splice (List.replicate L.length (Value.int .u8 0)) 0 (L.map (Value.int .u8))).toArray 5 (0, 0))) : BRow w g L := by
  unfold BRow
  rw [h]
  have : splice (List.replicate L.length (Value.int .u8 0)) 0 (L.map (Value.int .u8)) = L.map (Value.int .u8) := by simp [splice]
  rw [this]
  rfl

open Plain in
set_option maxHeartbeats 1000000 in
theorem f3_some (ad : Addr) (n c : Nat) (L : List Int) (w : World) (hL : L.length = n) (hl : LiesB w (some ad) L) : Calls Try.prog 3 #[.slice (some ad) n c] w fun e w' => e = .returned (.bool true) ∧ Below w.heap.size w w' := by
  have q22 : ∀ (w : World) (a : Option Addr) (n c n' c' : Nat), (binOp .neq 22 (.slice a n c) (.slice none n' c')).run Try.prog w = .ok (.bool !a.isNone) w := fun w a n c n' c' => run_neq_slice_nil_any w _ _ a n c n' c' Try.underlying22
  obtain ⟨i0, hi, hz0, hz1, hz2⟩ := info_parts Try.info5
  obtain ⟨o, HO⟩ := named (parse L)
  by_cases hn : n ≤ 1048576
  · have HL : Hid (L.length = n) := hL
    clear hL
    have hby : ∀ x ∈ L, 0 ≤ x ∧ x ≤ 255 := by
      intro x hx
      obtain ⟨i, hi, rfl⟩ := List.mem_iff_getElem.1 hx
      exact (hl i hi).2
    have HB : Hid _ := hby
    clear hby
    go_enter Try.func3, Try.ntmps3
    go_wp2_with fail
    refine (z5 (some ad) n c w hn).mono ?_
    rintro e w' ⟨rfl, rfl⟩
    go_wp2_with (first
      | (at_make; refine wpList_make_full _ rfl _ _ 22 rfl w'.heap.size 5 i0 (.int .u8 0) 1 Try.underlying22 hi hz0 hz1 _ _ _ _ n rfl rfl rfl rfl (by rw [hz2]; omega) (by unfold maxLen; omega) (Nat.le_refl _) ?_; intro w1 hown1 hgrow1)
      | (refine wpList_copy_splice rfl (.tmp 19) (.tmp 20) 22 22 rfl 5 Try.underlying22 Try.size5 _ _ _ _ _ _ rfl rfl w'.heap.size 0 ((List.replicate n 0).map (Value.int .u8)) 5 (brow_made hown1) (L.map (Value.int .u8)) ?c1 ?c2 ?c3 ?c4 w'.heap.size w' ((Below.refl _ _).grown hgrow1 (Nat.le_refl _) (fun k h => by cases h)) (Nat.le_refl _) ?_))
    case c1 => simp [HL.out]
    case c2 =>
      intro _ j v hj
      obtain ⟨hjL, rfl⟩ := List.getElem?_eq_some_iff.1 hj
      obtain ⟨⟨b, of, e, hlt, g⟩, _⟩ := hl j hjL
      cases e
      rw [Addr.add_lit]
      exact (((Below.refl w'.heap.size w').grown hgrow1 (Nat.le_refl _) (fun k h => by cases h)).cell (p := ⟨b, of + j, none⟩) hlt).trans g
    case c3 => simp [HL.out]
    case c4 =>
      intro v hv
      obtain ⟨x, _, rfl⟩ := List.mem_map.1 hv
      rfl
    intro w2 HR hB2
    have hR : BRow w2 w'.heap.size L := by
      have := HR.out
      rw [← HL.out] at this
      exact brow_spliced this
    clear HR hown1 hgrow1
    have hl2 := hR.lies HB.out
    go_wp2_with fail
    refine (p_out _ n n L o w2 HL.out (Nat.le_refl _) (by omega) hl2 HO.out).mono ?_
    rintro e w3 ⟨rfl, hB3⟩
    go_wp2_with fail
    refine (s_out _ n n L o w3 HL.out (by omega) (hl2.below hB3) HO.out).mono ?_
    rintro e w4 ⟨rfl, hB4⟩
    have hBB : Below w'.heap.size w' w4 := (hB2.trans (hB3.mono hB2.size)).trans (hB4.mono (Nat.le_trans hB2.size hB3.size))
    cases o with
    | none =>
      go_wp2_with fail
      go_ret
      exact ⟨rfl, hBB⟩
    | some x =>
      go_wp2_with fail
      go_ret
      exact ⟨rfl, hBB⟩
  · go_enter Try.func3, Try.ntmps3
    go_wp2_with fail
    refine (z5_not (some ad) n c w hn).mono ?_
    rintro e w' ⟨rfl, rfl⟩
    go_wp2_with fail
    go_ret
    exact ⟨rfl, Below.refl _ _⟩

end Go.Proofs.Qxb6630387a
