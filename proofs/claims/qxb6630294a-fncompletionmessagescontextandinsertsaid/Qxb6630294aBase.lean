/-
  PLAIN LISTS AND WORLDS for the seat b6630294a: messages as pairs of strings, laid flat as cells.
-/
import Derived.Test.Qxb6630294aRows
import Derived.WalkKit
import Derived.WalkSpells
import Derived.WalkLawsBesides
import Derived.ChangeAlike
namespace Go.Proofs.Qxb6630294a
open Go.RowKit

abbrev Msg := ByteArray × ByteArray

/-- The cells of a row of messages. -/
def flat : List Msg → List Value
  | [] => []
  | p :: r => .string p.1 :: .string p.2 :: flat r

theorem flat_append (a b : List Msg) : flat (a ++ b) = flat a ++ flat b := by
  induction a with
  | nil => rfl
  | cons p r ih => simp [flat, ih]

theorem flat_length (a : List Msg) : (flat a).length = a.length * 2 := by
  induction a with
  | nil => rfl
  | cons p r ih => simp [flat, ih]; omega

theorem flat_get0 (a : List Msg) (i : Nat) (h : i < a.length) : (flat a)[i * 2]? = some (.string a[i].1) := by
  induction a generalizing i with
  | nil => simp at h
  | cons p r ih =>
    cases i with
    | zero => rfl
    | succ i =>
      have := ih i (by simpa using h)
      have e : (i + 1) * 2 = i * 2 + 1 + 1 := by omega
      simpa [flat, e] using this

theorem flat_get1 (a : List Msg) (i : Nat) (h : i < a.length) : (flat a)[i * 2 + 1]? = some (.string a[i].2) := by
  induction a generalizing i with
  | nil => simp at h
  | cons p r ih =>
    cases i with
    | zero => rfl
    | succ i =>
      have := ih i (by simpa using h)
      have e : (i + 1) * 2 + 1 = i * 2 + 1 + 1 + 1 := by omega
      simpa [flat, e] using this

/-- One store more: the first k messages are laid; the k-th is laid behind them. -/
theorem take_two (xs : List Value) (L : List Msg) (k : Nat) (hk : k < L.length) (hx : xs.take (k * 2) = flat (L.take k)) (hl : xs.length = L.length * 2) :
    ((xs.set (k * 2) (.string L[k].1)).set (k * 2 + 1) (.string L[k].2)).take ((k + 1) * 2) = flat (L.take (k + 1)) := by
  rw [List.take_succ_eq_append_getElem hk, flat_append, ← hx]
  have e : (k + 1) * 2 = k * 2 + 1 + 1 := by omega
  rw [e, List.take_succ_eq_append_getElem (by simp [hl]; omega), List.take_succ_eq_append_getElem (by simp [hl]; omega)]
  simp [flat, List.take_set_of_le]

/-- The messages L lie at the address: two cells each, in blocks that are there. -/
def Lies (w : World) (ao : Option Addr) (L : List Msg) : Prop :=
  ∀ i (h : i < L.length), ∃ b of, ao = some ⟨b, of, none⟩ ∧ b < w.heap.size ∧ w.cell? ⟨b, of + i * 2, none⟩ = some (.string L[i].1) ∧ w.cell? ⟨b, of + i * 2 + 1, none⟩ = some (.string L[i].2)

theorem Lies.below {w w' : World} {ao : Option Addr} {L : List Msg} (h : Lies w ao L) (hb : Below w.heap.size w w') : Lies w' ao L := by
  intro i hi
  obtain ⟨b, o, e, hlt, h0, h1⟩ := h i hi
  exact ⟨b, o, e, Nat.lt_of_lt_of_le hlt hb.size, (hb.cell (p := ⟨b, o + i * 2, none⟩) hlt).trans h0, (hb.cell (p := ⟨b, o + i * 2 + 1, none⟩) hlt).trans h1⟩

theorem Lies.of_owns {w : World} {base e : Nat} {g n cap : Nat} {L : List Msg} (h : w.ownsRow base e 2 (.slice (some ⟨g, 0, none⟩) n cap) n (flat L)) (hL : L.length = n) : Lies w (some ⟨g, 0, none⟩) L := by
  intro i hi
  refine ⟨g, 0, rfl, (h.lt g rfl).2, ?_, ?_⟩
  · rw [Nat.zero_add, h.cellAt (i * 2) (by omega), flat_get0 L i hi]
  · rw [Nat.zero_add, h.cellAt (i * 2 + 1) (by omega), flat_get1 L i hi]

/-- It returns a bool. -/
def IsBool (e : Ending) : Prop := ∃ b, e = .returned (.bool b)
theorem isBool (b : Bool) : IsBool (.returned (.bool b)) := ⟨b, rfl⟩
/-- It returns false; or true, and n is at most 32768. -/
def Fits (n : Nat) (e : Ending) : Prop := e = .returned (.bool false) ∨ (e = .returned (.bool true) ∧ n ≤ 32768)
theorem fitsNot (n : Nat) : Fits n (.returned (.bool false)) := .inl rfl
theorem fitsYes {n : Nat} (h : n ≤ 32768) : Fits n (.returned (.bool true)) := .inr ⟨rfl, h⟩

theorem Try.info38 : (Try.prog.info? 38).map (fun i => (i.zero, i.size, i.bytes)) = some (some (.agg #[.string ⟨#[]⟩, .string ⟨#[]⟩]), 2, 32) := by kernel_rfl
theorem Try.info34 : (Try.prog.info? 34).map (fun i => (i.zero, i.size, i.bytes)) = some (some (.agg #[.string ⟨#[]⟩, .string ⟨#[]⟩]), 2, 32) := by kernel_rfl
theorem Try.info26 : (Try.prog.info? 26).map (fun i => (i.zero, i.size, i.bytes)) = some (some (.agg #[.string ⟨#[]⟩, .string ⟨#[]⟩]), 2, 32) := by kernel_rfl

end Go.Proofs.Qxb6630294a
