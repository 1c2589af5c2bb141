import Derived.Test.Qxb6630433aBase
namespace Go.Proofs.Qxb6630433a
open Go.RowKit

/-- Block g holds one cell, the value v (a heap's struct). -/
def Box (w : World) (g : Nat) (v : Value) : Prop := w.heap[g]? = some (.cells #[v] 30 (0, 0))
theorem Box.cell {w : World} {g : Nat} {v : Value} (h : Box w g v) : w.cell? ⟨g, 0, none⟩ = some v := by
  unfold Box at h
  simp [World.cell?, h]
theorem Box.frozen {w : World} {g : Nat} {v : Value} (h : Box w g v) : w.frozen? ⟨g, 0, none⟩ = false := by
  unfold Box at h
  simp [World.frozen?, h]
theorem Box.lt {w : World} {g : Nat} {v : Value} (h : Box w g v) : g < w.heap.size := (Array.getElem?_eq_some_iff.1 h).1
theorem Box.of_block {w w' : World} {g : Nat} {v : Value} (h : Box w g v) (e : w'.heap[g]? = w.heap[g]?) : Box w' g v := e.trans h
theorem Box.set {w : World} {g : Nat} {v : Value} (h : Box w g v) (u : Value) : Box (w.setCell ⟨g, 0, none⟩ u) g u := by
  unfold Box at h ⊢
  simp [World.setCell, Array.getElem?_modify, h]
theorem Box.other {w : World} {g : Nat} {v : Value} (h : Box w g v) {a : Addr} (ha : g ≠ a.block) (u : Value) : Box (w.setCell a u) g v := h.of_block (Below.heap_setCell _ _ _ _ ha)
theorem Box.drewN {w : World} {g : Nat} {v : Value} (h : Box w g v) (q : Nat) : Box (w.drewN q) g v := h
theorem Box.below {w w' : World} {g : Nat} {v : Value} (h : Box w g v) (hb : Below w.heap.size w w') : Box w' g v := h.of_block (hb.block g h.lt)
theorem Box.grown {w w' : World} {g : Nat} {v : Value} {r : Option Nat} (h : Box w g v) (hb : w.grownBy w' r) (hne : some g ≠ r) : Box w' g v := h.of_block (hb.block g h.lt hne)

/-- Of the blocks that were there only a and b may have turned; none is new. -/
structure Only (w w' : World) (a b : Nat) : Prop where
  os : w'.os = w.os
  tape : w'.tape = w.tape
  output : w'.output = w.output
  size : w'.heap.size = w.heap.size
  block : ∀ k, k ≠ a → k ≠ b → w'.heap[k]? = w.heap[k]?
theorem Only.refl (w : World) (a b : Nat) : Only w w a b := ⟨rfl, rfl, rfl, rfl, fun _ _ _ => rfl⟩
theorem Only.setA {w w' : World} {a b : Nat} (h : Only w w' a b) (i : Nat) (v : Value) : Only w (w'.setCell ⟨a, i, none⟩ v) a b :=
  ⟨h.os, h.tape, h.output, by rw [← h.size]; simp [World.setCell], fun k h1 h2 => (Below.heap_setCell _ _ _ _ h1).trans (h.block k h1 h2)⟩
theorem Only.setB {w w' : World} {a b : Nat} (h : Only w w' a b) (i : Nat) (v : Value) : Only w (w'.setCell ⟨b, i, none⟩ v) a b :=
  ⟨h.os, h.tape, h.output, by rw [← h.size]; simp [World.setCell], fun k h1 h2 => (Below.heap_setCell _ _ _ _ h2).trans (h.block k h1 h2)⟩
theorem Only.drewN {w w' : World} {a b : Nat} (h : Only w w' a b) (q : Nat) : Only w (w'.drewN q) a b := ⟨h.os, h.tape, h.output, h.size, h.block⟩
theorem Only.drew {w w' : World} {a b : Nat} (h : Only w w' a b) : Only w w'.drew a b := ⟨h.os, h.tape, h.output, h.size, h.block⟩
theorem Only.below {w w' : World} {a b B : Nat} (h : Only w w' a b) (ha : B ≤ a) (hb : B ≤ b) : Below B w w' := ⟨h.os, h.tape, h.output, Nat.le_of_eq h.size.symm, fun k hk => h.block k (by omega) (by omega)⟩
theorem Only.row {w w' : World} {a b g : Nat} {T : List Int} (h : Only w w' a b) (h1 : g ≠ a) (h2 : g ≠ b) (hr : IRow w g T) : IRow w' g T := hr.of_block (h.block g h1 h2)

open Plain in
theorem hole_at {T : List Int} {m k j : Nat} {x : Int} (hm : m ≤ T.length) (hk : k < m) (hj : j < m) : ((T.take m).set k x).getD j 0 = if j = k then x else T.getD j 0 := by
  rw [getD_set _ _ _ _ (by rw [List.length_take]; omega)]
  split
  · rfl
  · exact getD_take _ _ _ hj

open Plain in
theorem pop_break {T : List Int} {m k : Nat} {x : Int} (hm : m ≤ T.length) (hk : k < m) (h : Hole ((T.take m).set k x) k) (hmin : ∀ j, j < m → (j = 2 * k + 1 ∨ j = 2 * k + 2) → x ≤ T.getD j 0) : Hp ((T.take m).set k x) := by
  refine hole_done h fun j h1 h2 h3 => ?_
  have h2' : j < m := by rw [List.length_set, List.length_take] at h2; omega
  rw [hole_at hm hk hk, if_pos rfl, hole_at hm hk h2', if_neg (by omega)]
  exact hmin j h2' (kids h1 h3)

open Plain in
theorem pop_move {T : List Int} {m k c : Nat} {x : Int} (hm : m ≤ T.length) (hk : k < m) (hc : c < m) (hck : c = 2 * k + 1 ∨ c = 2 * k + 2) (h : Hole ((T.take m).set k x) k) (hx : ¬ x ≤ T.getD c 0)
    (hmin : ∀ j, j < m → (j = 2 * k + 1 ∨ j = 2 * k + 2) → T.getD c 0 ≤ T.getD j 0) :
    Hole (((T.set k (T.getD c 0)).take m).set c x) c ∧ (((T.set k (T.getD c 0)).take m).set c x).Perm ((T.take m).set k x) := by
  have hlen : ((T.take m).set k x).length = m := by rw [List.length_set, List.length_take]; omega
  have e1 : ((T.take m).set k x).getD c 0 = T.getD c 0 := by rw [hole_at hm hk hc, if_neg (by omega)]
  have e2 : ((T.take m).set k x).getD k 0 = x := by rw [hole_at hm hk hk, if_pos rfl]
  have e3 : ((T.set k (T.getD c 0)).take m).set c x = (((T.take m).set k x).set k (((T.take m).set k x).getD c 0)).set c (((T.take m).set k x).getD k 0) := by
    rw [e1, e2, List.set_set, List.take_set]
  rw [e3]
  refine ⟨hole_step h (by omega) (by omega) (by omega) (by omega) (by rw [e1, e2]; omega) fun j h1 h2 h3 => ?_, swap_perm (by omega) (by omega)⟩
  rw [hlen] at h2
  rw [e1, hole_at hm hk h2, if_neg (by omega)]
  exact hmin j h2 (kids h1 h3)

theorem take_set_eq {T : List Int} {m k : Nat} {x : Int} : (T.set k x).take m = (T.take m).set k x := List.take_set

/-- What 'Pop' leaves. -/
def Popped (w w' : World) (gh g m cap : Nat) (T : List Int) : Prop :=
  ∃ T' : List Int, Box w' gh (.slice (some ⟨g, 0, none⟩) m cap) ∧ IRow w' g T' ∧ T'.length = cap ∧ Plain.Hp (T'.take m) ∧ (T.getD 0 0 :: T'.take m).Perm (T.take (m + 1)) ∧ Only w w' gh g

set_option maxHeartbeats 1000000 in
theorem pop_one (gh g cap : Nat) (T : List Int) (w : World) (hne : gh ≠ g) (hbox : Box w gh (.slice (some ⟨g, 0, none⟩) 1 cap)) (hT : IRow w g T) (hTl : T.length = cap) (hc : 1 ≤ cap) (hc2 : cap ≤ 1048576) :
    Calls Try.prog 9 #[.pointer (some ⟨gh, 0, none⟩)] w fun e w' => e = .returned (.int .i64 (T.getD 0 0)) ∧ Popped w w' gh g 0 cap T := by
  have b1 := hbox.cell
  have b2 := hbox.frozen
  have t1 := hT.cell 0 (by omega)
  have HT : Hid (T.length = cap) := hTl
  clear hTl
  obtain ⟨x, HX⟩ := named (T.getD 0 0)
  rw [HX.out] at t1
  have HF : Hid (Popped w (w.setCell ⟨gh, 0, none⟩ (.slice (some ⟨g, 0, none⟩) 0 cap)) gh g 0 cap T) := by
    refine ⟨T, hbox.set _, hT.other (by simpa using Ne.symm hne) _, HT.out, fun j _ h => by simp at h, ?_, (Only.refl w gh g).setA 0 _⟩
    have h1 : 0 < T.length := by rw [HT.out]; omega
    rw [List.take_succ_eq_append_getElem h1]
    simp [h1]
  rw [HX.out]
  go_enter Try.func9, Try.ntmps9
  go_wp2
  go_ret
  exact ⟨rfl, HF.out⟩

open Plain in
set_option maxRecDepth 10000 in
set_option maxHeartbeats 2000000 in
theorem pop_many (gh g m cap : Nat) (T : List Int) (w : World) (hne : gh ≠ g) (hm : 1 ≤ m) (hbox : Box w gh (.slice (some ⟨g, 0, none⟩) (m + 1) cap)) (hT : IRow w g T) (hTl : T.length = cap) (hc : m + 1 ≤ cap) (hc2 : cap ≤ 1048576) (hp : Hp (T.take (m + 1))) :
    Calls Try.prog 9 #[.pointer (some ⟨gh, 0, none⟩)] w fun e w' => e = .returned (.int .i64 (T.getD 0 0)) ∧ Popped w w' gh g m cap T := by
  have b1 := hbox.cell
  have b2 := hbox.frozen
  have t1 := hT.cell 0 (by omega)
  have t2 := hT.cell m (by omega)
  have hm0 : ((m : Int) == 0) = false := by rw [beq_eq_false_iff_ne]; omega
  have hne' : g ≠ gh := Ne.symm hne
  obtain ⟨s0, HS⟩ := named (T.getD 0 0)
  obtain ⟨x, HX⟩ := named (T.getD m 0)
  have HT : Hid (T.length = cap) := hTl
  have HI : Hid (Hole ((T.take m).set 0 x) 0 ∧ (s0 :: (T.take m).set 0 x).Perm (T.take (m + 1))) := by
    have hlen : (T.take (m + 1)).length = m + 1 := by rw [List.length_take]; omega
    have e1 : (T.take (m + 1)).take m = T.take m := by rw [List.take_take, Nat.min_eq_left (by omega)]
    refine ⟨?_, ?_⟩
    · have := hole_start hp hm (show m < (T.take (m + 1)).length by omega) x
      rwa [e1] at this
    · have := start_perm (l := T.take (m + 1)) hm hlen
      rwa [e1, getD_take _ _ _ (by omega), getD_take _ _ _ (by omega), HS.out, HX.out] at this
  have hb' := hbox.set (.slice (some ⟨g, 0, none⟩) m cap)
  have hT' : IRow (w.setCell ⟨gh, 0, none⟩ (.slice (some ⟨g, 0, none⟩) m cap)) g T := hT.other (by simpa using hne') _
  have hO := (Only.refl w gh g).setA 0 (.slice (some ⟨g, 0, none⟩) m cap)
  have HW : Hid (Box (w.setCell ⟨gh, 0, none⟩ (.slice (some ⟨g, 0, none⟩) m cap)) gh (.slice (some ⟨g, 0, none⟩) m cap) ∧ IRow (w.setCell ⟨gh, 0, none⟩ (.slice (some ⟨g, 0, none⟩) m cap)) g T ∧ Only w (w.setCell ⟨gh, 0, none⟩ (.slice (some ⟨g, 0, none⟩) m cap)) gh g) := ⟨hb', hT', hO⟩
  rw [HS.out] at t1
  rw [HX.out] at t2
  unfold Popped
  rw [HS.out]
  clear hb' hT' hO hTl hp hT hbox
  go_enter Try.func9, Try.ntmps9
  go_wp2
  clear t1 t2 b1 b2 hm0
  go_loopw [6] (fun k wr => ∃ (kn : Nat) (T1 : List Int), kn < m ∧ k = .int .i64 kn ∧ T1.length = cap ∧ Box wr gh (.slice (some ⟨g, 0, none⟩) m cap) ∧ IRow wr g T1 ∧ Only w wr gh g ∧ Hole ((T1.take m).set kn x) kn ∧ (s0 :: (T1.take m).set kn x).Perm (T.take (m + 1)))
    (fun k _ => m - (intOf k).toNat)
  case atStart => exact ⟨0, T, by omega, rfl, HT.out, HW.out.1, HW.out.2.1, HW.out.2.2, HI.out.1, HI.out.2⟩
  case round =>
    clear HW HI
    obtain ⟨kn, T1, hk, rfl, hT1l, hbox, hT1, hO, hhole, hperm⟩ := hrel
    have HT1 : Hid (T1.length = cap) := hT1l
    have HH : Hid (Hole ((T1.take m).set kn x) kn ∧ (s0 :: (T1.take m).set kn x).Perm (T.take (m + 1))) := ⟨hhole, hperm⟩
    clear hT1l hhole hperm
    have b1 := hbox.cell
    have k1 := hT1.cell kn (by rw [HT1.out]; omega)
    have k2 := hT1.frozen kn
    by_cases hch : 2 * kn + 1 < m
    · obtain ⟨c1, HC1⟩ := named (T1.getD (2 * kn + 1) 0)
      have v1 := hT1.cell (2 * kn + 1) (by rw [HT1.out]; omega)
      rw [HC1.out] at v1
      by_cases hr : 2 * kn + 1 + 1 < m
      · obtain ⟨c2, HC2⟩ := named (T1.getD (2 * kn + 1 + 1) 0)
        have v2 := hT1.cell (2 * kn + 1 + 1) (by rw [HT1.out]; omega)
        rw [HC2.out] at v2
        have hri : (2 : Int) * (kn : Int) + 1 + 1 < (m : Int) := by omega
        by_cases hcc : c2 < c1
        · by_cases hx : x ≤ c2
          · have HF : Hid (Hp ((T1.take m).set kn x)) := pop_break (by rw [HT1.out]; omega) hk HH.out.1 (fun j h1 h2 => by rcases h2 with h2 | h2 <;> subst h2 <;> first | (rw [HC1.out]; omega) | (rw [HC2.out]; omega))
            go_wp2
            go_quiet (fail)
            go_wp2
            go_ret
            refine ⟨rfl, T1.set kn x, (hbox.other (by simpa using hne) _).drewN _, (hT1.set kn x).drewN _, by simp [HT1.out], ?_, ?_, (hO.setB kn _).drewN _⟩
            · rw [take_set_eq]; exact HF.out
            · rw [take_set_eq]; exact HH.out.2
          · have HM := pop_move (c := 2 * kn + 1 + 1) (by rw [HT1.out]; omega) hk (by omega) (.inr rfl) HH.out.1 (by rw [HC2.out]; exact hx) (fun j h1 h2 => by rw [HC2.out]; rcases h2 with h2 | h2 <;> subst h2 <;> first | (rw [HC1.out]; omega) | (rw [HC2.out]; omega))
            rw [HC2.out] at HM
            have HM' : Hid _ := HM
            clear HM
            go_wp2
            go_quiet (fail)
            go_wp2
            go_region
            all_goals
              go_wp2
              go_roundw
              case rel => exact ⟨2 * kn + 1 + 1, T1.set kn c2, by omega, by go_num, by simp [HT1.out], (hbox.other (by simpa using hne) _).drewN _, (hT1.set kn c2).drewN _, (hO.setB kn _).drewN _, HM'.out.1, (List.Perm.cons s0 HM'.out.2).trans HH.out.2⟩
              case measure => simp [intOf]; omega
        · by_cases hx : x ≤ c1
          · have HF : Hid (Hp ((T1.take m).set kn x)) := pop_break (by rw [HT1.out]; omega) hk HH.out.1 (fun j h1 h2 => by rcases h2 with h2 | h2 <;> subst h2 <;> first | (rw [HC1.out]; omega) | (rw [HC2.out]; omega))
            go_wp2
            go_quiet (fail)
            go_wp2
            go_ret
            refine ⟨rfl, T1.set kn x, (hbox.other (by simpa using hne) _).drewN _, (hT1.set kn x).drewN _, by simp [HT1.out], ?_, ?_, (hO.setB kn _).drewN _⟩
            · rw [take_set_eq]; exact HF.out
            · rw [take_set_eq]; exact HH.out.2
          · have HM := pop_move (c := 2 * kn + 1) (by rw [HT1.out]; omega) hk (by omega) (.inl rfl) HH.out.1 (by rw [HC1.out]; exact hx) (fun j h1 h2 => by rw [HC1.out]; rcases h2 with h2 | h2 <;> subst h2 <;> first | (rw [HC1.out]; omega) | (rw [HC2.out]; omega))
            rw [HC1.out] at HM
            have HM' : Hid _ := HM
            clear HM
            go_wp2
            go_quiet (fail)
            go_wp2
            go_region
            all_goals
              go_wp2
              go_roundw
              case rel => exact ⟨2 * kn + 1, T1.set kn c1, by omega, by go_num, by simp [HT1.out], (hbox.other (by simpa using hne) _).drewN _, (hT1.set kn c1).drewN _, (hO.setB kn _).drewN _, HM'.out.1, (List.Perm.cons s0 HM'.out.2).trans HH.out.2⟩
              case measure => simp [intOf]; omega
      · have hrd : decide ((2 : Int) * (kn : Int) + 1 + 1 < (m : Int)) = false := by simp; omega
        by_cases hx : x ≤ c1
        · have HF : Hid (Hp ((T1.take m).set kn x)) := pop_break (by rw [HT1.out]; omega) hk HH.out.1 (fun j h1 h2 => by rcases h2 with h2 | h2 <;> subst h2 <;> first | (exfalso; omega) | (rw [HC1.out]; omega))
          go_wp2
          go_quiet (fail)
          go_wp2
          go_ret
          refine ⟨rfl, T1.set kn x, (hbox.other (by simpa using hne) _).drewN _, (hT1.set kn x).drewN _, by simp [HT1.out], ?_, ?_, (hO.setB kn _).drewN _⟩
          · rw [take_set_eq]; exact HF.out
          · rw [take_set_eq]; exact HH.out.2
        · have HM := pop_move (c := 2 * kn + 1) (by rw [HT1.out]; omega) hk (by omega) (.inl rfl) HH.out.1 (by rw [HC1.out]; exact hx) (fun j h1 h2 => by rw [HC1.out]; rcases h2 with h2 | h2 <;> subst h2 <;> first | (exfalso; omega) | (rw [HC1.out]; omega))
          rw [HC1.out] at HM
          have HM' : Hid _ := HM
          clear HM
          go_wp2
          go_quiet (fail)
          go_wp2
          go_region
          all_goals
            go_wp2
            go_roundw
            case rel => exact ⟨2 * kn + 1, T1.set kn c1, by omega, by go_num, by simp [HT1.out], (hbox.other (by simpa using hne) _).drewN _, (hT1.set kn c1).drewN _, (hO.setB kn _).drewN _, HM'.out.1, (List.Perm.cons s0 HM'.out.2).trans HH.out.2⟩
            case measure => simp [intOf]; omega
    · have HF : Hid (Hp ((T1.take m).set kn x)) := pop_break (by rw [HT1.out]; omega) hk HH.out.1 (fun j h1 h2 => by omega)
      go_wp2
      go_ret
      refine ⟨rfl, T1.set kn x, hbox.other (by simpa using hne) _, hT1.set kn x, by simp [HT1.out], ?_, ?_, hO.setB kn _⟩
      · rw [take_set_eq]; exact HF.out
      · rw [take_set_eq]; exact HH.out.2

end Go.Proofs.Qxb6630433a
