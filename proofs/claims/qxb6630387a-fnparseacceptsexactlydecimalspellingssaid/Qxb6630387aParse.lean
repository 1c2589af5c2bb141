import Derived.Test.Qxb6630387aW6
namespace Go.Proofs.Qxb6630387a
open Go.RowKit

/-- The bytes L lie at the address, in a block that is there. -/
def LiesB (w : World) (ao : Option Addr) (L : List Int) : Prop :=
  ∀ i (h : i < L.length), (∃ b of, ao = some ⟨b, of, none⟩ ∧ b < w.heap.size ∧ w.cell? ⟨b, of + i, none⟩ = some (.int .u8 L[i])) ∧ 0 ≤ L[i] ∧ L[i] ≤ 255

theorem LiesB.below {w w' : World} {ao : Option Addr} {L : List Int} (h : LiesB w ao L) (hb : Below w.heap.size w w') : LiesB w' ao L := by
  intro i hi
  obtain ⟨⟨b, o, e, hlt, h0⟩, h1⟩ := h i hi
  exact ⟨⟨b, o, e, Nat.lt_of_lt_of_le hlt hb.size, (hb.cell (p := ⟨b, o + i, none⟩) hlt).trans h0⟩, h1⟩

open Plain in
/-- 'Parse', whatever the bytes. -/
theorem p_any (ao : Option Addr) (n c : Nat) (L : List Int) (w : World) (hL : L.length = n) (hc : n ≤ c) (h63 : n ≤ 9223372036854775807) (hl : LiesB w ao L) :
    Calls Try.prog 6 #[.slice ao n c] w fun e w' => e = out (parse L) ∧ ∃ q, w' = w.drewN q := by
  cases L with
  | nil =>
    obtain rfl : n = 0 := hL.symm
    exact p_nil ao c w
  | cons x R =>
    obtain ⟨⟨b, of, rfl, _, g0⟩, _⟩ := hl 0 (by simp)
    have hcell : ∀ i (h : i < (x :: R).length), w.cell? ⟨b, of + i, none⟩ = some (.int .u8 (x :: R)[i]) := by
      intro i hi
      obtain ⟨⟨b', of', e, _, g⟩, _⟩ := hl i hi
      cases e
      exact g
    have hby : ∀ i (h : i < (x :: R).length), 0 ≤ (x :: R)[i] ∧ (x :: R)[i] ≤ 255 := fun i hi => (hl i hi).2
    clear hl
    obtain rfl : n = R.length + 1 := hL.symm
    have g0' : w.cell? ⟨b, of, none⟩ = some (.int .u8 x) := g0
    by_cases hx : x = 45
    · subst hx
      cases R with
      | nil => exact p_minus b of c w g0' hc
      | cons e r =>
        have g1 := hcell 1 (by simp)
        have g1' : w.cell? ⟨b, of + 1, none⟩ = some (.int .u8 e) := g1
        by_cases he : e = 48
        · subst he
          have hp : parse (45 :: 48 :: r) = none := by simp [parse]
          rw [hp]
          exact p_minus0 b of (r.length + 1) c w (by omega) hc h63 g0' g1'
        · have hp : parse (45 :: e :: r) = fin true (e :: r) := by simp [parse, he]
          rw [hp]
          exact p_negrun b of (r.length + 1) c (e :: r) w rfl (by omega) hc h63 g0'
            (fun i hi => by have := hcell (i + 1) (by simp at hi ⊢; omega); rw [Nat.add_assoc, Nat.add_comm 1 i]; simpa using this)
            (fun i hi => by have := hby (i + 1) (by simp at hi ⊢; omega); simpa using this) e g1' (by rw [beq_eq_false_iff_ne]; exact he)
    · have hx' : (x == 45) = false := by rw [beq_eq_false_iff_ne]; exact hx
      cases R with
      | nil =>
        have hp : parse [x] = fin false [x] := by simp [parse, hx]
        rw [hp]
        exact p_posrun b of 1 c [x] w rfl (by omega) (by omega) hcell hby x g0' hx' (.inr rfl)
      | cons e r =>
        by_cases h8 : x = 48
        · subst h8
          have hp : parse (48 :: e :: r) = none := by simp [parse]
          rw [hp]
          exact p_pos0 b of (r.length + 1 + 1) c w (by omega) h63 g0'
        · have hp : parse (x :: e :: r) = fin false (x :: e :: r) := by simp [parse, hx, h8]
          rw [hp]
          exact p_posrun b of (r.length + 1 + 1) c (x :: e :: r) w rfl (by omega) h63 hcell hby x g0' hx' (.inl (by rw [beq_eq_false_iff_ne]; exact h8))

end Go.Proofs.Qxb6630387a
