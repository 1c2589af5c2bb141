/-
  'Rows.FnCompletionMessagesContextAndInsertSaid' PROVED: the row's step over the walk 'f4_core' (after the guide's frame for a law).
-/
import Derived.Test.Qxb6630294aW4
import Derived.ProofKit
import Derived.OpenShut
import Derived.ShutString
import Derived.ChangeOld
import Derived.Below
import Derived.Deep.SlicePairs
import Derived.Lib.SmallJoins
namespace Go.Proofs.Qxb6630294a
open Go.ChangeShapes Go.WideShapes Go.ChangeAt Go.RowKit
open Go.ChangeMaps (open_string shut_string)
open Go.Joins
set_option linter.unusedVariables false

theorem own : ownKnob Try.prog.godebug = none := by kernel_rfl
theorem laidOut : laidOutB Try.prog = true := by kernel_rfl
theorem Try.cells26 : Try.prog.cellsOf 26 = 2 := by kernel_rfl
theorem Try.cells9 : Try.prog.cellsOf 9 = 1 := by kernel_rfl

theorem lead_cases (ctx : ByteArray) : ((lead ctx).length = 0 ∧ ctx.toList.isEmpty = true) ∨ ((lead ctx).length = 1 ∧ ctx.toList.isEmpty = false) := by
  by_cases h : ctx.toList.isEmpty = true
  · left; simp [lead, h]
  · right; simp [lead, h]

theorem f4_any (ctx content : ByteArray) (ao : Option Addr) (n c : Nat) (k0 : Int) (m : Msg) (L : List Msg) (w : World) (hL : L.length = n) (hc : n ≤ c) (hm : c ≤ maxLen) (hl : Lies w ao L) (hnone : ao = none → c = 0) :
    Calls Try.prog 4 #[.string ctx, .slice ao n c, .string content, .int .i64 k0, .agg #[.string m.1, .string m.2]] w fun e w' => e = .returned (.bool true) ∧ Below w.heap.size w w' := by
  unfold maxLen at hm
  exact f4_core ctx content ao n c k0 m L w hL (by omega) hl (fun h => by have := hnone h; omega) _ rfl (lead_cases ctx)

/-- A 'ProvidersB1Msg' by value is two strings. -/
theorem open_msg {H : Type} {enc : TypeId × Value → H} {W : World} {base : Nat} {v : Value} {d : DataW H} {ps : List MemPlace} (hv : Value.okWide Try.prog W .any base 26 v)
    (h : DataW.Trod enc Try.prog W 0 (fun _ => true) true 26 v d ps) : ∃ m : Msg, v = .agg #[.string m.1, .string m.2] := by
  obtain ⟨c0, c1, y0, y1, n, rfl, _, _, hy0, hy1⟩ := open_agg2 Try.underlying26 (by kernel_rfl) Try.cells26 hv h
  obtain ⟨s0, e0, _⟩ := DataW.trod_string Try.underlying9 hy0
  obtain ⟨s1, e1, _⟩ := DataW.trod_string Try.underlying9 hy1
  simp at e0 e1
  exact ⟨(s0, s1), by rw [e0, e1]⟩

/-- WHAT AN ARGUMENT OF TYPE '[]ProvidersB1Msg' HOLDS: messages that lie where it says. -/
theorem open_msgs {H : Type} {enc : TypeId × Value → H} {W : World} {a : Option Addr} {len cap fuel : Nat} {x : DataW H × List MemPlace}
    (h : DataW.trod enc Try.prog W 0 (fun _ => true) true fuel 22 [.slice a len cap] = some x) : ∃ L : List Msg, L.length = len ∧ len ≤ cap ∧ cap ≤ maxLen ∧ Lies W a L ∧ (a = none → cap = 0) := by
  rcases Deep.open_slice_pairs Try.underlying22 Try.underlying26 Try.cells26 rfl rfl Try.cells9 Try.cells9 h with ⟨hcs, _⟩ | ⟨x, l, c, m, n, V0, V1, D0, D1, P0, P1, hcs, _, hl, hm, hmm, _, hcell⟩
  · simp at hcs
    obtain ⟨rfl, rfl, rfl⟩ := hcs
    exact ⟨[], rfl, Nat.le_refl _, Nat.zero_le _, fun i hi => by simp at hi, fun _ => rfl⟩
  · simp at hcs
    obtain ⟨rfl, rfl, rfl⟩ := hcs
    simp at hmm
    subst hmm
    have each : ∀ i, i < len → ∃ q : Msg, W.cell? (x.add (i * 2)) = some (.string q.1) ∧ W.cell? (x.add (i * 2 + 1)) = some (.string q.2) := by
      intro i hi
      obtain ⟨h0, h1, t0, t1⟩ := hcell i (by omega)
      obtain ⟨s0, e0, _⟩ := DataW.trod_string Try.underlying9 t0
      obtain ⟨s1, e1, _⟩ := DataW.trod_string Try.underlying9 t1
      simp at e0 e1
      rw [e0] at h0
      rw [e1] at h1
      exact ⟨(s0, s1), h0, h1⟩
    obtain ⟨q, hq⟩ := Deep.choose_lt each
    refine ⟨(List.range len).map q, by simp, hl, hm, ?_, fun h => by cases h⟩
    intro i hi
    simp at hi
    obtain ⟨b, off, spot⟩ := x
    have hspot : spot = none := by simpa [Addr.add] using World.cell?_spot (hq 0 (by omega)).1
    subst hspot
    have g := hq i hi
    rw [Addr.add_lit, Addr.add_lit] at g
    exact ⟨b, off, rfl, World.block_lt_of_cell? W _ g.1, by simpa using g.1, by simpa [Nat.add_assoc] using g.2⟩

set_option maxRecDepth 100000 in
theorem insert_lifted (os : Os) (started : os.Started) (H : Type) (enc : TypeId × Value → H) :
    ReturnsInHanded {} Try.checked os 4 .any (Rows.fnCompletionMessagesContextAndInsertSpec.pre6 enc Try.prog Try.f4 Rows.fnCompletionMessagesContextAndInsertRow.domain false) (Rows.fnCompletionMessagesContextAndInsertSpec.post enc Try.prog Try.f4 false true false false) := by
  refine returnsInHanded_of_change (C := Try.checked) own started (by kernel_rfl) Try.func4
    (ChangeSpec.witness6 (enc := enc) (C := Try.checked) false ⟨#[], #[.string ⟨#[]⟩, .slice none 0 0, .string ⟨#[]⟩, .int .i64 0, .agg #[.string ⟨#[]⟩, .string ⟨#[]⟩]], []⟩ 8 (by kernel_rfl) (by kernel_rfl) (by kernel_rfl) (by kernel_rfl)) ?_
  intro W base args ds gs before hval0 hW hcnd _
  have hval : ∀ (j : Nat) t v, Try.f4.params[j]? = some t → args[j]? = some v → Value.okWide Try.prog W .any base t v := hval0
  have hW' := hW
  obtain ⟨p, q, hA0, hV, rfl, hfz, hnd⟩ := hW
  have hA : DataW.TrodAll enc Try.prog W 0 (fun _ => true) true Try.f4.params.toList args.toList ds p := hA0
  rw [Try.params4] at hA hval
  obtain ⟨v0, vs0, d0, ds0, p0, q0, hargs, rfl, rfl, h0, r0⟩ := trodAll_cons hA
  obtain ⟨v1, vs1, d1, ds1, p1, q1, rfl, rfl, rfl, h1, r1⟩ := trodAll_cons r0
  obtain ⟨v2, vs2, d2, ds2, p2, q2, rfl, rfl, rfl, h2, r2⟩ := trodAll_cons r1
  obtain ⟨v3, vs3, d3, ds3, p3, q3, rfl, rfl, rfl, h3, r3⟩ := trodAll_cons r2
  obtain ⟨v4, vs4, d4, ds4, p4, q4, rfl, rfl, rfl, h4, r4⟩ := trodAll_cons r3
  obtain ⟨rfl, rfl, rfl⟩ := trodAll_nil r4
  obtain rfl : args = #[v0, v1, v2, v3, v4] := by cases args; simp_all
  obtain ⟨rfl, rfl⟩ := trodVars_none hV
  have lt1 : ∀ x ∈ p1, x.block < W.heap.size := by obtain ⟨m, hm⟩ := h1; exact DataW.trod_lt m _ _ _ hm
  have k1 := h1
  have k4 := h4
  have lt4 : ∀ x ∈ p4, x.block < W.heap.size := by obtain ⟨m, hm⟩ := h4; exact DataW.trod_lt m _ _ _ hm
  obtain ⟨s0, rfl, rfl, rfl, w0⟩ := open_string Try.underlying9 (hval 0 9 v0 rfl rfl) h0
  obtain ⟨a1, len1, cap1, rfl⟩ := okWide_slice Try.underlying22 (hval 1 22 v1 rfl rfl)
  obtain ⟨s2, rfl, rfl, rfl, w2⟩ := open_string Try.underlying9 (hval 2 9 v2 rfl rfl) h2
  obtain ⟨i3, rfl, rfl, rfl, w3⟩ := open_int Try.underlying3 (hval 3 3 v3 rfl rfl) h3
  obtain ⟨L, hL, hc, hm, hl, hnone⟩ : ∃ L : List Msg, L.length = len1 ∧ len1 ≤ cap1 ∧ cap1 ≤ maxLen ∧ Lies W a1 L ∧ (a1 = none → cap1 = 0) := by
    obtain ⟨fuel, hf⟩ := h1
    exact open_msgs (by simpa [Value.cells] using hf)
  obtain ⟨m, hm4⟩ : ∃ m : Msg, v4 = .agg #[.string m.1, .string m.2] := open_msg (hval 4 26 v4 rfl rfl) h4
  subst hm4
  clear hA0 hval0
  refine (f4_any s0 s2 a1 len1 cap1 i3 m L W hL hc hm hl hnone).mono fun e W' ⟨he, bel⟩ => ?_
  subst he
  exact ⟨_, rfl, _, _, _, [], _, [], hW', trodAll_mk1 (shut_bool Try.underlying4 _),
    (trodAll_cons_mk (shut_string Try.underlying9 w0) (trodAll_cons_mk (Below.trod laidOut (by kernel_rfl) (of_decide_eq_true (by kernel_rfl)) k1 bel lt1) (trodAll_cons_mk (shut_string Try.underlying9 w2) (trodAll_cons_mk (shut_int Try.underlying3 w3) (trodAll_cons_mk (Below.trod laidOut (by kernel_rfl) (of_decide_eq_true (by kernel_rfl)) k4 bel lt4) trodAll_mk0))))), rfl, bel.frame _, fun h => by cases h⟩

theorem insert_over : Rows.fnCompletionMessagesContextAndInsertRow.holds Try.pinned (OpenSpec.ofChange Rows.fnCompletionMessagesContextAndInsertSpec) :=
  OpenClaim.holds_of_wide 4 Try.f4 rfl rfl rfl rfl rfl rfl rfl ⟨rfl, rfl, rfl, rfl, rfl⟩ rfl rfl rfl rfl rfl (by kernel_rfl) Try.func4 (by kernel_rfl)
    (of_decide_eq_true (by kernel_rfl)) (by unfold Func.isWrapper; first | (rw [if_pos (by decide +kernel)]; kernel_rfl) | (rw [if_neg (by decide +kernel)]; exact ⟨rfl, rfl⟩))
    (fun os started H enc _ => insert_lifted os started H enc)

/-- THE STATEMENT. -/
theorem contextAndInsert_proved : Rows.FnCompletionMessagesContextAndInsertSaid := insert_over
#print axioms contextAndInsert_proved
end Go.Proofs.Qxb6630294a
