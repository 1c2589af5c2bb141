import Derived.Test.Qxb6630294aW8
import Derived.Test.Qxb6630294aW10
namespace Go.Proofs.Qxb6630294a
open Go.RowKit

/-- 'b1ToEarlier': nil for nil; else the same messages in a new row. -/
theorem f8_any (ao : Option Addr) (n c : Nat) (L : List Msg) (w : World) (hL : L.length = n) (hn : n ≤ 100000) (hl : Lies w ao L) (hnone : ao = none → n = 0) :
    Calls Try.prog 8 #[.slice ao n c] w fun e w' => ∃ v' c', e = .returned (.slice v' n c') ∧ Lies w' v' L ∧ Below w.heap.size w w' := by
  cases ao with
  | none =>
    have h0 := hnone rfl
    refine (f8_nil w n c h0).mono ?_
    rintro e w' ⟨rfl, rfl⟩
    subst h0
    exact ⟨none, 0, rfl, fun i hi => by omega, Below.refl _ _⟩
  | some ad =>
    refine (f8_some ad n c L w hL hn ?_ ?_ ?_).mono ?_
    · intro h0
      obtain ⟨b, o, e, hlt, _⟩ := hl 0 (by omega)
      cases e
      exact hlt
    · intro i hi
      obtain ⟨b, o, e, _, h0, _⟩ := hl i hi
      cases e
      rw [Addr.add_lit]
      exact h0
    · intro i hi
      obtain ⟨b, o, e, _, _, h1⟩ := hl i hi
      cases e
      rw [Addr.add_lit]
      exact h1
    · rintro e w' ⟨rfl, hown, hB⟩
      exact ⟨_, _, rfl, Lies.of_owns hown hL, hB⟩

/-- 'ZZcompletionMessages': a new row that holds 'msgs'. -/
theorem f7_any (ctx content : ByteArray) (ao : Option Addr) (n cap : Nat) (L : List Msg) (w : World) (hL : L.length = n) (hn : n ≤ 100000) (hl : Lies w ao L) :
    Calls Try.prog 7 #[.agg #[.string ctx, .slice ao n cap, .string content]] w fun e w' =>
      ∃ g c', e = .returned (.slice (some ⟨g, 0, none⟩) (msgs ctx L content).length c') ∧ Lies w' (some ⟨g, 0, none⟩) (msgs ctx L content) ∧ Below w.heap.size w w' := by
  have hb : Below w.heap.size w (w.alloc (.cells #[.string ctx, .slice ao n cap, .string content] 32)) := (Below.refl _ _).alloc (Nat.le_refl _) _
  go_enter Try.func7, Try.ntmps7
  go_wp2_with (go_at_call 10; refine (f10_any ctx content ao n cap L _ hL hn (hl.below hb)).mono ?_; rintro e w' ⟨rfl, hown, hB⟩)
  go_ret
  have hl' := Lies.of_owns hown rfl
  exact ⟨_, _, rfl, by simpa using hl', hb.trans (hB.mono (by simp))⟩

end Go.Proofs.Qxb6630294a
