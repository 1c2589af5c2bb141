import Derived.Test.Qxb6630294aBase
namespace Go.Proofs.Qxb6630294a
open Go.RowKit

theorem cell_two (w : World) (a b : Value) (t : TypeId) : ∀ j u, [a, b][j]? = some u → (w.alloc (.cells #[a, b] t)).cell? ((⟨w.heap.size, 0, none⟩ : Addr).add j) = some u := by
  intro j u hj
  match j, hj with
  | 0, hj => simp at hj; subst hj; simp [Addr.add]
  | 1, hj => simp at hj; subst hj; simp [Addr.add]

theorem two_one (a b : ByteArray) : ∀ u ∈ [Value.string a, Value.string b], u.oneCell' = true := by
  intro u hu
  simp at hu
  rcases hu with rfl | rfl <;> rfl

set_option maxHeartbeats 1000000 in
theorem f10_empty (content : ByteArray) (ao : Option Addr) (n cap : Nat) (L : List Msg) (w : World) (hL : L.length = n) (hn : n ≤ 100000)
    (hao : ∀ k (h : k < L.length), ∃ g of, ao = some ⟨g, of, none⟩ ∧ g < w.heap.size ∧ w.cell? ⟨g, of + k * 2, none⟩ = some (.string L[k].1) ∧ w.cell? ⟨g, of + k * 2 + 1, none⟩ = some (.string L[k].2)) :
    Calls Try.prog 10 #[.agg #[.string ⟨#[]⟩, .slice ao n cap, .string content]] w fun e w' =>
      e = .returned (.slice (some ⟨w.heap.size + 1, 0, none⟩) (n + 1) (n + 2)) ∧
      w'.ownsRow w.heap.size 34 2 (.slice (some ⟨w.heap.size + 1, 0, none⟩) (n + 1) (n + 2)) (n + 1) (flat (L ++ [(⟨#[117, 115, 101, 114]⟩, content)])) ∧ Below w.heap.size w w' := by
  obtain ⟨i0, hi, hz0, hz1, hz2⟩ := info_parts Try.info34
  go_enter Try.func10, Try.ntmps10
  go_wp2_with (at_make; refine wpList_make_own _ rfl _ _ 27 rfl w.heap.size 34 i0 (.agg #[.string ⟨#[]⟩, .string ⟨#[]⟩]) 2 Try.underlying27 hi hz0 hz1 _ _ _ (n + 2) rfl rfl (by omega) ?b2 ?b3 (by simp) ?_)
  case b2 => rw [hz2]; omega
  case b3 => unfold maxLen; omega
  intro w0 hown0 hgrow0
  have hB0 : Below (w.heap.size + 1) (w.alloc (.cells #[.string ⟨#[]⟩, .slice ao n cap, .string content] 32)) w0 := (Below.refl _ _).grown hgrow0 (by simp) (fun k h => by cases h)
  have bx : ∀ wr : World, Below (w.heap.size + 1) (w.alloc (.cells #[.string ⟨#[]⟩, .slice ao n cap, .string content] 32)) wr → wr.cell? ⟨w.heap.size, 0, none⟩ = some (.string ⟨#[]⟩) ∧ wr.cell? ⟨w.heap.size, 1, none⟩ = some (.slice ao n cap) ∧ wr.cell? ⟨w.heap.size, 2, none⟩ = some (.string content) := by
    intro wr hB
    refine ⟨?_, ?_, ?_⟩
    · exact (hB.cell (p := ⟨w.heap.size, 0, none⟩) (by simp)).trans (by simp)
    · exact (hB.cell (p := ⟨w.heap.size, 1, none⟩) (by simp)).trans (by simp)
    · exact (hB.cell (p := ⟨w.heap.size, 2, none⟩) (by simp)).trans (by simp)
  have HB : Hid (∀ wr : World, Below (w.heap.size + 1) (w.alloc (.cells #[.string ⟨#[]⟩, .slice ao n cap, .string content] 32)) wr → wr.cell? ⟨w.heap.size, 0, none⟩ = some (.string ⟨#[]⟩) ∧ wr.cell? ⟨w.heap.size, 1, none⟩ = some (.slice ao n cap) ∧ wr.cell? ⟨w.heap.size, 2, none⟩ = some (.string content)) := bx
  clear bx
  obtain ⟨b0, b1, b2⟩ := HB.out w0 hB0
  go_wp2
  go_loopw [3, 23] (fun v i wr => ∃ k : Nat, k ≤ n ∧ i = .int .i64 k ∧ v = .slice (some ⟨w.heap.size + 1, 0, none⟩) k (n + 2) ∧ wr.ownsRow w.heap.size 34 2 (.slice (some ⟨w.heap.size + 1, 0, none⟩) k (n + 2)) k (flat (L.take k)) ∧ Below (w.heap.size + 1) (w.alloc (.cells #[.string ⟨#[]⟩, .slice ao n cap, .string content] 32)) wr)
    (fun _ i _ => n - (intOf i).toNat)
  case atStart => exact ⟨0, Nat.zero_le _, rfl, by simp, by simpa [flat] using hown0, hB0⟩
  case round =>
    obtain ⟨k, hk, rfl, rfl, hown, hB⟩ := hrel
    obtain ⟨b0, b1, b2⟩ := HB.out wr hB
    by_cases hlt : k < n
    · obtain ⟨g, of, rfl, hg, g0, g1⟩ := hao k (by omega)
      have e0 : wr.cell? ⟨g, of + k * 2, none⟩ = some (.string L[k].1) := (hB.cell (p := ⟨g, of + k * 2, none⟩) (by simp; omega)).trans ((Below.refl w.heap.size w).alloc (Nat.le_refl _) _ |>.cell (p := ⟨g, of + k * 2, none⟩) hg |>.trans g0)
      have e1 : wr.cell? ⟨g, of + k * 2 + 1, none⟩ = some (.string L[k].2) := (hB.cell (p := ⟨g, of + k * 2 + 1, none⟩) (by simp; omega)).trans ((Below.refl w.heap.size w).alloc (Nat.le_refl _) _ |>.cell (p := ⟨g, of + k * 2 + 1, none⟩) hg |>.trans g1)
      have hsz : w.heap.size + 1 ≤ wr.heap.size := by have := hB.size; simpa using this
      have hcc := cell_two (wr.alloc (.cells #[.string L[k].1, .string L[k].2] 38)) (.string L[k].1) (.string L[k].2) 34
      rw [show (wr.alloc (.cells #[.string L[k].1, .string L[k].2] 38)).heap.size = wr.heap.size + 1 from by simp] at hcc
      have HC := (show Hid _ from hcc)
      clear hcc
      go_wp2_with (at_builtin; refine wpList_append_fits _ rfl (.tmp 27) (.tmp 33) 27 rfl w.heap.size 34 i0 2 Try.underlying27 hi hz1 (w.heap.size + 1) k (n + 2) _ rfl ((hown.alloc _).alloc _) ⟨wr.heap.size + 1, 0, none⟩ 1 1 [.string L[k].1, .string L[k].2] rfl rfl HC.out (two_one _ _) (by omega) ?_; intro w1 hown1 hgrow1)
      go_roundw
      case rel =>
        refine ⟨k + 1, by omega, by go_num, rfl, ?_, ?_⟩
        · rw [List.take_succ_eq_append_getElem (by omega), flat_append]
          exact hown1
        · exact ((hB.alloc hsz _).alloc (by simp; omega) _).grown hgrow1 (by simp; omega) (fun k h => by cases h; omega)
      case measure => simp [intOf]; omega
    · obtain rfl : k = n := by omega
      have hsz : w.heap.size + 1 ≤ wr.heap.size := by have := hB.size; simpa using this
      have HC := (show Hid _ from cell_two wr (.string ⟨#[117, 115, 101, 114]⟩) (.string content) 34)
      go_wp2_with (at_builtin; refine wpList_append_fits _ rfl (.tmp 36) (.tmp 40) 27 rfl w.heap.size 34 i0 2 Try.underlying27 hi hz1 (w.heap.size + 1) k (k + 2) _ rfl (hown.alloc _) ⟨wr.heap.size, 0, none⟩ 1 1 [.string ⟨#[117, 115, 101, 114]⟩, .string content] rfl rfl HC.out (two_one _ _) (by omega) ?_; intro w1 hown1 hgrow1)
      go_ret
      refine ⟨rfl, ?_, ?_⟩
      · rw [flat_append]
        rw [List.take_of_length_le (by omega)] at hown1
        exact hown1
      · exact (((Below.refl w.heap.size w).alloc (Nat.le_refl _) _).trans (hB.mono (by omega))).alloc (by omega) _ |>.grown hgrow1 (by simp; omega) (fun k h => by cases h; omega)

set_option maxHeartbeats 1000000 in
theorem f10_lead (ctx content : ByteArray) (ao : Option Addr) (n cap : Nat) (L : List Msg) (w : World) (hL : L.length = n) (hn : n ≤ 100000) (hctx : ctx.toList.isEmpty = false)
    (hao : ∀ k (h : k < L.length), ∃ g of, ao = some ⟨g, of, none⟩ ∧ g < w.heap.size ∧ w.cell? ⟨g, of + k * 2, none⟩ = some (.string L[k].1) ∧ w.cell? ⟨g, of + k * 2 + 1, none⟩ = some (.string L[k].2)) :
    Calls Try.prog 10 #[.agg #[.string ctx, .slice ao n cap, .string content]] w fun e w' =>
      e = .returned (.slice (some ⟨w.heap.size + 1, 0, none⟩) (n + 2) (n + 2)) ∧
      w'.ownsRow w.heap.size 34 2 (.slice (some ⟨w.heap.size + 1, 0, none⟩) (n + 2) (n + 2)) (n + 2) (flat ((⟨#[115, 121, 115, 116, 101, 109]⟩, ctx) :: L ++ [(⟨#[117, 115, 101, 114]⟩, content)])) ∧ Below w.heap.size w w' := by
  obtain ⟨i0, hi, hz0, hz1, hz2⟩ := info_parts Try.info34
  go_enter Try.func10, Try.ntmps10
  go_wp2_with (at_make; refine wpList_make_own _ rfl _ _ 27 rfl w.heap.size 34 i0 (.agg #[.string ⟨#[]⟩, .string ⟨#[]⟩]) 2 Try.underlying27 hi hz0 hz1 _ _ _ (n + 2) rfl rfl (by omega) ?b2 ?b3 (by simp) ?_)
  case b2 => rw [hz2]; omega
  case b3 => unfold maxLen; omega
  intro w0 hown0 hgrow0
  have hB0 : Below (w.heap.size + 1) (w.alloc (.cells #[.string ctx, .slice ao n cap, .string content] 32)) w0 := (Below.refl _ _).grown hgrow0 (by simp) (fun k h => by cases h)
  have bx : ∀ wr : World, Below (w.heap.size + 1) (w.alloc (.cells #[.string ctx, .slice ao n cap, .string content] 32)) wr → wr.cell? ⟨w.heap.size, 0, none⟩ = some (.string ctx) ∧ wr.cell? ⟨w.heap.size, 1, none⟩ = some (.slice ao n cap) ∧ wr.cell? ⟨w.heap.size, 2, none⟩ = some (.string content) := by
    intro wr hB
    refine ⟨?_, ?_, ?_⟩
    · exact (hB.cell (p := ⟨w.heap.size, 0, none⟩) (by simp)).trans (by simp)
    · exact (hB.cell (p := ⟨w.heap.size, 1, none⟩) (by simp)).trans (by simp)
    · exact (hB.cell (p := ⟨w.heap.size, 2, none⟩) (by simp)).trans (by simp)
  have HB : Hid (∀ wr : World, Below (w.heap.size + 1) (w.alloc (.cells #[.string ctx, .slice ao n cap, .string content] 32)) wr → wr.cell? ⟨w.heap.size, 0, none⟩ = some (.string ctx) ∧ wr.cell? ⟨w.heap.size, 1, none⟩ = some (.slice ao n cap) ∧ wr.cell? ⟨w.heap.size, 2, none⟩ = some (.string content)) := bx
  clear bx
  obtain ⟨b0, b1, b2⟩ := HB.out w0 hB0
  have hsz0 : w.heap.size + 1 ≤ w0.heap.size := by have := hB0.size; simpa using this
  have HC0 := (show Hid _ from cell_two w0 (.string ⟨#[115, 121, 115, 116, 101, 109]⟩) (.string ctx) 34)
  go_wp2_with (at_builtin; refine wpList_append_fits _ rfl (.tmp 14) (.tmp 18) 27 rfl w.heap.size 34 i0 2 Try.underlying27 hi hz1 (w.heap.size + 1) 0 (n + 2) _ rfl (hown0.alloc _) ⟨w0.heap.size, 0, none⟩ 1 1 [.string ⟨#[115, 121, 115, 116, 101, 109]⟩, .string ctx] rfl rfl HC0.out (two_one _ _) (by omega) ?_; intro w1 hown1 hgrow1; have hB1 := (hB0.alloc hsz0 (.cells #[.string ⟨#[115, 121, 115, 116, 101, 109]⟩, .string ctx] 34)).grown hgrow1 (by simp; omega) (fun k h => by cases h; omega); obtain ⟨c0, c1, c2⟩ := HB.out w1 hB1)
  go_loopw [3, 23] (fun v i wr => ∃ k : Nat, k ≤ n ∧ i = .int .i64 k ∧ v = .slice (some ⟨w.heap.size + 1, 0, none⟩) (k + 1) (n + 2) ∧ wr.ownsRow w.heap.size 34 2 (.slice (some ⟨w.heap.size + 1, 0, none⟩) (k + 1) (n + 2)) (k + 1) (flat ((⟨#[115, 121, 115, 116, 101, 109]⟩, ctx) :: L.take k)) ∧ Below (w.heap.size + 1) (w.alloc (.cells #[.string ctx, .slice ao n cap, .string content] 32)) wr)
    (fun _ i _ => n - (intOf i).toNat)
  case atStart => exact ⟨0, Nat.zero_le _, rfl, by simp, by simpa [flat] using hown1, hB1⟩
  case round =>
    obtain ⟨k, hk, rfl, rfl, hown, hB⟩ := hrel
    obtain ⟨b0, b1, b2⟩ := HB.out wr hB
    by_cases hlt : k < n
    · obtain ⟨g, of, rfl, hg, g0, g1⟩ := hao k (by omega)
      have e0 : wr.cell? ⟨g, of + k * 2, none⟩ = some (.string L[k].1) := (hB.cell (p := ⟨g, of + k * 2, none⟩) (by simp; omega)).trans ((Below.refl w.heap.size w).alloc (Nat.le_refl _) _ |>.cell (p := ⟨g, of + k * 2, none⟩) hg |>.trans g0)
      have e1 : wr.cell? ⟨g, of + k * 2 + 1, none⟩ = some (.string L[k].2) := (hB.cell (p := ⟨g, of + k * 2 + 1, none⟩) (by simp; omega)).trans ((Below.refl w.heap.size w).alloc (Nat.le_refl _) _ |>.cell (p := ⟨g, of + k * 2 + 1, none⟩) hg |>.trans g1)
      have hsz : w.heap.size + 1 ≤ wr.heap.size := by have := hB.size; simpa using this
      have hcc := cell_two (wr.alloc (.cells #[.string L[k].1, .string L[k].2] 38)) (.string L[k].1) (.string L[k].2) 34
      rw [show (wr.alloc (.cells #[.string L[k].1, .string L[k].2] 38)).heap.size = wr.heap.size + 1 from by simp] at hcc
      have HC := (show Hid _ from hcc)
      clear hcc
      go_wp2_with (at_builtin; refine wpList_append_fits _ rfl (.tmp 27) (.tmp 33) 27 rfl w.heap.size 34 i0 2 Try.underlying27 hi hz1 (w.heap.size + 1) (k + 1) (n + 2) _ rfl ((hown.alloc _).alloc _) ⟨wr.heap.size + 1, 0, none⟩ 1 1 [.string L[k].1, .string L[k].2] rfl rfl HC.out (two_one _ _) (by omega) ?_; intro w2 hown2 hgrow2)
      go_roundw
      case rel =>
        refine ⟨k + 1, by omega, by go_num, rfl, ?_, ?_⟩
        · rw [List.take_succ_eq_append_getElem (by omega), ← List.cons_append, flat_append]
          exact hown2
        · exact ((hB.alloc hsz _).alloc (by simp; omega) _).grown hgrow2 (by simp; omega) (fun k h => by cases h; omega)
      case measure => simp [intOf]; omega
    · obtain rfl : k = n := by omega
      have hsz : w.heap.size + 1 ≤ wr.heap.size := by have := hB.size; simpa using this
      have HC := (show Hid _ from cell_two wr (.string ⟨#[117, 115, 101, 114]⟩) (.string content) 34)
      go_wp2_with (at_builtin; refine wpList_append_fits _ rfl (.tmp 36) (.tmp 40) 27 rfl w.heap.size 34 i0 2 Try.underlying27 hi hz1 (w.heap.size + 1) (k + 1) (k + 2) _ rfl (hown.alloc _) ⟨wr.heap.size, 0, none⟩ 1 1 [.string ⟨#[117, 115, 101, 114]⟩, .string content] rfl rfl HC.out (two_one _ _) (by omega) ?_; intro w2 hown2 hgrow2)
      go_ret
      refine ⟨rfl, ?_, ?_⟩
      · rw [← List.cons_append, flat_append]
        rw [List.take_of_length_le (by omega)] at hown2
        exact hown2
      · exact (((Below.refl w.heap.size w).alloc (Nat.le_refl _) _).trans (hB.mono (by omega))).alloc (by omega) _ |>.grown hgrow2 (by simp; omega) (fun k h => by cases h; omega)

/-- The message that a context that is not empty puts ahead. -/
def lead (ctx : ByteArray) : List Msg := if ctx.toList.isEmpty then [] else [(⟨#[115, 121, 115, 116, 101, 109]⟩, ctx)]
def userMsg (content : ByteArray) : Msg := (⟨#[117, 115, 101, 114]⟩, content)
/-- What 'completionMessages' gives. -/
def msgs (ctx : ByteArray) (L : List Msg) (content : ByteArray) : List Msg := lead ctx ++ L ++ [userMsg content]

theorem empty_of_isEmpty {ctx : ByteArray} (h : ctx.toList.isEmpty = true) : ctx = ⟨#[]⟩ := by
  rw [ByteArray.toList_eq] at h
  obtain ⟨⟨x⟩⟩ := ctx
  simp at h
  subst h
  rfl

/-- 'completionMessages', whatever the context: a new row that holds 'msgs'. -/
theorem f10_any (ctx content : ByteArray) (ao : Option Addr) (n cap : Nat) (L : List Msg) (w : World) (hL : L.length = n) (hn : n ≤ 100000)
    (hao : ∀ k (h : k < L.length), ∃ g of, ao = some ⟨g, of, none⟩ ∧ g < w.heap.size ∧ w.cell? ⟨g, of + k * 2, none⟩ = some (.string L[k].1) ∧ w.cell? ⟨g, of + k * 2 + 1, none⟩ = some (.string L[k].2)) :
    Calls Try.prog 10 #[.agg #[.string ctx, .slice ao n cap, .string content]] w fun e w' =>
      e = .returned (.slice (some ⟨w.heap.size + 1, 0, none⟩) (msgs ctx L content).length (n + 2)) ∧
      w'.ownsRow w.heap.size 34 2 (.slice (some ⟨w.heap.size + 1, 0, none⟩) (msgs ctx L content).length (n + 2)) (msgs ctx L content).length (flat (msgs ctx L content)) ∧ Below w.heap.size w w' := by
  by_cases h : ctx.toList.isEmpty = true
  · obtain rfl := empty_of_isEmpty h
    have e : msgs ⟨#[]⟩ L content = L ++ [(⟨#[117, 115, 101, 114]⟩, content)] := by simp [msgs, lead, userMsg]
    rw [e]
    have el : (L ++ [((⟨#[117, 115, 101, 114]⟩, content) : Msg)]).length = n + 1 := by simp [hL]
    rw [el]
    exact f10_empty content ao n cap L w hL hn hao
  · have h' : ctx.toList.isEmpty = false := by simpa using h
    have e : msgs ctx L content = (⟨#[115, 121, 115, 116, 101, 109]⟩, ctx) :: L ++ [(⟨#[117, 115, 101, 114]⟩, content)] := by simp [msgs, lead, userMsg, h']
    rw [e]
    have el : ((⟨#[115, 121, 115, 116, 101, 109]⟩, ctx) :: L ++ [((⟨#[117, 115, 101, 114]⟩, content) : Msg)]).length = n + 2 := by simp [hL]
    rw [el]
    exact f10_lead ctx content ao n cap L w hL hn h' hao

end Go.Proofs.Qxb6630294a
