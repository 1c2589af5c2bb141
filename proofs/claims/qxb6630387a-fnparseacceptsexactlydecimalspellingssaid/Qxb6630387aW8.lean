import Derived.Test.Qxb6630387aRows
import Derived.Test.Qxb6630387aPlain
import Derived.WalkKit
import Derived.WalkSpells
import Derived.WalkLawsBesides
import Derived.ChangeAlike
import Derived.Deep.QuietTactic
import Derived.BigQuiet
import Derived.Laws.Rows
import Derived.Laws.Tables
import Derived.Laws.ResultCell
namespace Go.Proofs.Qxb6630387a
open Go.RowKit


/-- The cells of an array of bytes. -/
def arr (T : List Int) : Array Value := (T.map (Value.int .u8)).toArray
theorem arr_size (T : List Int) : (arr T).size = T.length := by simp [arr]
theorem arr_get (T : List Int) (i : Nat) (h : i < T.length) : (arr T)[i]? = some (.int .u8 (T.getD i 0)) := by simp [arr, h]
theorem arr_set (T : List Int) (i : Nat) (x : Int) : (arr T).setIfInBounds i (.int .u8 x) = arr (T.set i x) := by simp [arr]
theorem arr_one (T : List Int) : (arr T).all (·.oneCell') = true := by
  simp only [arr, List.all_toArray, List.all_map]
  rw [List.all_eq_true]
  intro x _
  rfl

/-- Block g is an array of twenty bytes, the numbers T, not frozen. -/
def Row (w : World) (g : Nat) (T : List Int) : Prop := T.length = 20 ∧ w.heap[g]? = some (.cells (arr T) 26 (0, 0))

theorem Row.cell {w : World} {g : Nat} {T : List Int} (h : Row w g T) (i : Nat) (hi : i < 20) : w.cell? ⟨g, i, none⟩ = some (.int .u8 (T.getD i 0)) := by
  simp only [World.cell?, h.2]
  exact arr_get T i (by rw [h.1]; exact hi)
theorem Row.frozen {w : World} {g : Nat} {T : List Int} (h : Row w g T) (i : Nat) : w.frozen? ⟨g, i, none⟩ = false := by simp [World.frozen?, h.2]
theorem Row.lt {w : World} {g : Nat} {T : List Int} (h : Row w g T) : g < w.heap.size := (Array.getElem?_eq_some_iff.1 h.2).1
theorem Row.of_block {w w' : World} {g : Nat} {T : List Int} (h : Row w g T) (e : w'.heap[g]? = w.heap[g]?) : Row w' g T := ⟨h.1, e.trans h.2⟩
theorem Row.set {w : World} {g : Nat} {T : List Int} (h : Row w g T) (i : Nat) (x : Int) : Row (w.setCell ⟨g, i, none⟩ (.int .u8 x)) g (T.set i x) := by
  refine ⟨by simpa using h.1, ?_⟩
  rw [← arr_set]
  simp [World.setCell, Array.getElem?_modify, h.2]
theorem Row.other {w : World} {g : Nat} {T : List Int} (h : Row w g T) {a : Addr} (ha : g ≠ a.block) (v : Value) : Row (w.setCell a v) g T := h.of_block (Below.heap_setCell _ _ _ _ ha)
theorem Row.alloc {w : World} {g : Nat} {T : List Int} (h : Row w g T) (o : Obj) : Row (w.alloc o) g T := h.of_block (Below.heap_alloc _ _ _ h.lt)
theorem Row.below {w w' : World} {g : Nat} {T : List Int} (h : Row w g T) (hb : Below w.heap.size w w') : Row w' g T := h.of_block (hb.block g h.lt)
theorem Row.new (w : World) (T : List Int) (hT : T.length = 20) : Row (w.alloc (.cells (arr T) 26)) w.heap.size T := by
  refine ⟨hT, ?_⟩
  show (w.heap.push _)[w.heap.size]? = _
  simp
theorem Row.newSet (w : World) (a : Addr) (v : Value) (T : List Int) (hT : T.length = 20) : Row ((w.setCell a v).alloc (.cells (arr T) 26)) w.heap.size T := by
  have h := Row.new (w.setCell a v) T hT
  have e : (w.setCell a v).heap.size = w.heap.size := by simp [World.setCell]
  rwa [e] at h
theorem Row.otherRow {w : World} {g g' : Nat} {T : List Int} (h : Row w g T) (hne : g' ≠ g) (c : Array Value) : Row (w.setRow g' c) g T := by
  refine h.of_block ?_
  simp [World.setRow, Array.getElem?_modify, hne]
theorem below_setRow' {B : Nat} {a w : World} (h : Below B a w) {g : Nat} (hg : B ≤ g) (c : Array Value) : Below B a (w.setRow g c) := by
  refine h.trans ⟨rfl, rfl, rfl, by simp [World.setRow], fun k hk => ?_⟩
  have : g ≠ k := by omega
  simp [World.setRow, Array.getElem?_modify, this]
theorem Row.setRow {w : World} {g : Nat} {T T' : List Int} (h : Row w g T) (hT : T'.length = 20) : Row (w.setRow g (arr T')) g T' := by
  refine ⟨hT, ?_⟩
  simp [World.setRow, Array.getElem?_modify, h.2]

def zeros : List Int := List.replicate 20 0
theorem arr_zeros : arr zeros = #[.int .u8 0, .int .u8 0, .int .u8 0, .int .u8 0, .int .u8 0, .int .u8 0, .int .u8 0, .int .u8 0, .int .u8 0, .int .u8 0, .int .u8 0, .int .u8 0, .int .u8 0, .int .u8 0, .int .u8 0, .int .u8 0, .int .u8 0, .int .u8 0, .int .u8 0, .int .u8 0] := rfl
theorem zeros_len : zeros.length = 20 := rfl

theorem Try.size26 : (Try.prog.info? 26).map (·.size) = some 20 := by kernel_rfl
theorem wrap_neg (v : Int) (h0 : v < 0) (h1 : -9223372036854775808 ≤ v) : IntKind.u64.wrap (-IntKind.u64.wrap v) = -v := by
  simp only [IntKind.wrap, IntKind.bits, IntKind.signed]
  simp
  omega

open Plain in
theorem dec_19 (u : Nat) (h : u ≤ 9223372036854775808) : (dec u).length ≤ 20 - 1 := by
  refine dec_len 18 u (Nat.lt_of_le_of_lt h ?_)
  decide

open Plain in
/-- One digit more. -/
theorem dig_more {U un K : Nat} {T : List Int} (hT : T.length = 20) (hk2 : K + 1 ≤ 20) (h : dec U = dec un ++ T.drop (K + 1)) (hu : 10 ≤ un) :
    dec U = dec (un / 10) ++ (T.set K (48 + (un : Int) % 10)).drop K := by
  have hkT : K < T.length := by omega
  rw [h, dec_big hu, List.append_assoc]
  congr 1
  rw [List.drop_set, if_neg (by omega), Nat.sub_self, List.drop_eq_getElem_cons hkT, List.set_cons_zero]
  rfl
open Plain in
theorem dig_last {U un K : Nat} {T : List Int} (hT : T.length = 20) (hk2 : K + 1 ≤ 20) (h : dec U = dec un ++ T.drop (K + 1)) (hu : un < 10) :
    dec U = (T.set K (48 + (un : Int) % 10)).drop K := by
  have hkT : K < T.length := by omega
  rw [h, dec_small hu]
  rw [List.drop_set, if_neg (by omega), Nat.sub_self, List.drop_eq_getElem_cons hkT, List.set_cons_zero]
  rw [show (un : Int) % 10 = un from by omega]
  rfl
open Plain in
theorem dig_len {un K : Nat} (hu : 10 ≤ un) (h : (dec un).length ≤ K) : (dec (un / 10)).length ≤ K - 1 := by
  rw [dec_big hu] at h
  simp at h
  omega

theorem copy_step {T2 T : List Int} {K i : Nat} (h2 : T2.length = 20) (hT : T.length = 20) (hK : K ≤ i) (hi : i < 20) (h : T2.take (i - K) = (T.drop K).take (i - K)) :
    (T2.set (i - K) (T.getD i 0)).take (i + 1 - K) = (T.drop K).take (i + 1 - K) := by
  have e : i + 1 - K = (i - K) + 1 := by omega
  rw [e, List.take_succ_eq_append_getElem (by simp; omega), List.take_succ_eq_append_getElem (by simp; omega), ← h]
  simp [List.take_set_of_le, show K + (i - K) = i from by omega, show i < T.length by omega]

/-- The last word of 'spell': the array is loaded, laid into the result's cell, and handed back with its length. -/
theorem last_of {T2 T : List Int} {K : Nat} {l : List Int} (hT : T.length = 20) (hK : K ≤ 20) (h : T2.take (20 - K) = (T.drop K).take (20 - K)) (hl : l = T.drop K) : l.length = 20 - K ∧ T2.take l.length = l := by
  have e : l.length = 20 - K := by rw [hl]; simp [hT]
  refine ⟨e, ?_⟩
  rw [e, h, hl, List.take_of_length_le (by simp; omega)]

open Plain in
set_option maxRecDepth 10000 in
set_option maxHeartbeats 1000000 in
theorem f8_pos (v : Int) (w : World) (h0 : 0 ≤ v) (h1 : v ≤ 9223372036854775807) : Calls Try.prog 8 #[.int .i64 v] w fun e w' =>
    ∃ T : List Int, e = .returned (.tuple #[.agg (arr T), .int .i64 (spellL v).length]) ∧ T.length = 20 ∧ T.take (spellL v).length = spellL v ∧ (spellL v).length ≤ 20 ∧ Below w.heap.size w w' := by
  have hd : decide (v < 0) = false := by simp; omega
  have HU : Hid (dec v.toNat = dec v.toNat ++ zeros.drop 20) := by simp [Hid, zeros]
  have HV : Hid ((dec v.toNat).length ≤ 20 - 1) := dec_19 v.toNat (by omega)
  go_enter Try.func8, Try.ntmps8
  go_wp2
  go_loopw [5, 6] (fun u k wr => ∃ (un kn : Nat) (T : List Int), 2 ≤ kn ∧ kn ≤ 20 ∧ un ≤ 9223372036854775808 ∧ u = .int .u64 un ∧ k = .int .i64 kn ∧ Row wr w.heap.size zeros ∧ Row wr (w.heap.size + 1) T ∧ dec v.toNat = dec un ++ T.drop kn ∧ (dec un).length ≤ kn - 1 ∧ Below w.heap.size w wr)
    (fun _ k _ => (intOf k).toNat)
  case atStart =>
    refine ⟨v.toNat, 20, zeros, by omega, by omega, by omega, by go_num, rfl, ?_, ?_, HU.out, HV.out, ?_⟩
    · exact (Row.new w zeros rfl).alloc _
    · have := Row.new (w.alloc (.cells (arr zeros) 26)) zeros rfl
      simpa [arr_zeros] using this
    · exact ((Below.refl _ _).alloc (Nat.le_refl _) _).alloc (by simp) _
  case round =>
    obtain ⟨un, kn, T, hk1, hk2, hun, rfl, rfl, hN, hT, hdec, hlen, hB⟩ := hrel
    obtain ⟨K, rfl⟩ : ∃ K, kn = K + 1 := ⟨kn - 1, by omega⟩
    have HDE : Hid (dec v.toNat = dec un ++ T.drop (K + 1)) := hdec
    have HLE : Hid ((dec un).length ≤ K) := hlen
    clear hdec hlen
    have c1 := hT.cell K (by omega)
    have c2 := hT.frozen K
    have hNlt := hN.lt
    have hTlt := hT.lt
    by_cases hu : un < 10
    · have hq : ((un : Int) / 10 == 0) = true := by rw [beq_iff_eq]; omega
      have HS : Hid (spellL v = (T.set K (48 + (un : Int) % 10)).drop K) := by
        rw [Hid, spell_pos (by omega), show v.natAbs = v.toNat from by omega]
        exact dig_last hT.1 (by omega) HDE.out hu
      clear HDE HLE
      obtain ⟨wo, rfl⟩ : ∃ wo : World, wo = wr := ⟨_, rfl⟩
      have hT2 : Row ((wo.setCell ⟨w.heap.size + 1, K, none⟩ (.int .u8 (48 + (un : Int) % 10))).alloc (.cells (arr zeros) 26)) (w.heap.size + 1) (T.set K (48 + (un : Int) % 10)) := (hT.set K _).alloc _
      have hN2 : Row ((wo.setCell ⟨w.heap.size + 1, K, none⟩ (.int .u8 (48 + (un : Int) % 10))).alloc (.cells (arr zeros) 26)) w.heap.size zeros := (hN.other (by simp) _).alloc _
      have hO2 := Row.newSet wo ⟨w.heap.size + 1, K, none⟩ (.int .u8 (48 + (un : Int) % 10)) zeros rfl
      have hB2 : Below w.heap.size w ((wo.setCell ⟨w.heap.size + 1, K, none⟩ (.int .u8 (48 + (un : Int) % 10))).alloc (.cells (arr zeros) 26)) := (hB.setCell (by simp) _).alloc (by have := hB.size; simp [World.setCell]; omega) _
      have HR : Hid (Row ((wo.setCell ⟨w.heap.size + 1, K, none⟩ (.int .u8 (48 + (un : Int) % 10))).alloc (.cells (arr zeros) 26)) (w.heap.size + 1) (T.set K (48 + (un : Int) % 10)) ∧
        Row ((wo.setCell ⟨w.heap.size + 1, K, none⟩ (.int .u8 (48 + (un : Int) % 10))).alloc (.cells (arr zeros) 26)) w.heap.size zeros ∧
        Row ((wo.setCell ⟨w.heap.size + 1, K, none⟩ (.int .u8 (48 + (un : Int) % 10))).alloc (.cells (arr zeros) 26)) wo.heap.size zeros ∧
        Below w.heap.size w ((wo.setCell ⟨w.heap.size + 1, K, none⟩ (.int .u8 (48 + (un : Int) % 10))).alloc (.cells (arr zeros) 26))) := ⟨hT2, hN2, hO2, hB2⟩
      clear hT2 hN2 hO2 hB2 hB hN
      go_wp2
      go_loopw [8] (fun i w2 => ∃ (j : Nat) (T2 : List Int), K ≤ j ∧ j ≤ 20 ∧ i = .int .i64 j ∧ Row w2 (w.heap.size + 1) (T.set K (48 + (un : Int) % 10)) ∧ Row w2 w.heap.size zeros ∧ Row w2 wo.heap.size T2 ∧ T2.take (j - K) = ((T.set K (48 + (un : Int) % 10)).drop K).take (j - K) ∧ Below w.heap.size w w2)
        (fun i _ => 20 - (intOf i).toNat)
      case atStart => exact ⟨K, zeros, Nat.le_refl _, by omega, rfl, HR.out.1, HR.out.2.1, HR.out.2.2.1, by simp, HR.out.2.2.2⟩
      case round =>
        clear HR c1 c2 hT
        obtain ⟨j, T2, hj1, hj2, rfl, hT', hN', hO', hcop, hB'⟩ := hrel
        have HCO : Hid (T2.take (j - K) = ((T.set K (48 + (un : Int) % 10)).drop K).take (j - K)) := hcop
        clear hcop
        by_cases hj : j < 20
        · have d1 := hT'.cell j hj
          have d2 := hO'.cell (j - K) (by omega)
          have d3 := hO'.frozen (j - K)
          go_wp2
          go_roundw
          case rel => exact ⟨j + 1, _, by omega, by omega, by go_num, hT'.other (by simp; omega) _, hN'.other (by simp; omega) _, hO'.set (j - K) _, copy_step hO'.1 hT'.1 hj1 hj HCO.out, hB'.setCell (by simp; omega) _⟩
          case measure => simp [intOf]; omega
        · obtain rfl : j = 20 := by omega
          obtain ⟨e1, e2⟩ := last_of hT'.1 hj1 HCO.out HS.out
          have HE : Hid _ := And.intro e1 e2
          clear e1 e2
          have hsz2 : (Try.prog.info? 26).map (·.size) = some (arr T2).size := by rw [arr_size, hO'.1]; exact Try.size26
          have HZ : Hid _ := hsz2
          clear hsz2
          go_wp2_with (first | (refine wpList_load_row rfl 26 (.tmp 7) rfl wo.heap.size rfl 26 (arr T2) (0, 0) _ hO'.2 Try.underlying26 rfl HZ.out ?_) | (refine wpList_store_row rfl 26 (.tmp 2) (.tmp 47) rfl w.heap.size (arr T2) rfl rfl 26 (arr zeros) hN'.2 HZ.out (by rw [arr_size, arr_size, hO'.1]; rfl) (arr_one T2) ?_))
          have hres := run_loadVar_row (P := Try.prog) (wr.setRow w.heap.size (arr T2)) w.heap.size 26 26 (arr T2) (0, 0) _ (hN'.setRow hO'.1).2 Try.underlying26 rfl HZ.out
          refine bodyPost_ret (v := .tuple #[.agg (arr T2), .int .i64 (20 - (K : Int))]) ?_ rfl ⟨T2, ?_, hO'.1, HE.out.2, by rw [HE.out.1]; omega, below_setRow' hB' (Nat.le_refl _) _⟩
          · rw [results_cell_tmp rfl]
            simp [asAddr, Result.andThen, hres]
          · rw [HE.out.1, show ((20 - K : Nat) : Int) = 20 - (K : Int) from by omega]
    · have hq : ((un : Int) / 10 == 0) = false := by rw [beq_eq_false_iff_ne]; omega
      go_wp2
      go_roundw
      case rel =>
        refine ⟨un / 10, K, _, ?_, by omega, by omega, by go_num, by go_num, hN.other (by simp) _, hT.set K _, ?_, dig_len (by omega) HLE.out, hB.setCell (by simp) _⟩
        · have := HLE.out
          have := dig_len (show 10 ≤ un by omega) this
          have := dec_pos (un / 10)
          omega
        · exact dig_more hT.1 hk2 HDE.out (by omega)
      case measure => simp [intOf]

theorem neg_last {U J : Nat} {T : List Int} {x : Int} (hT : T.length = 20) (hJ : J + 1 < 20) (h : Plain.dec U = (T.set (J + 1) x).drop (J + 1)) : 45 :: Plain.dec U = ((T.set (J + 1) x).set J 45).drop J := by
  have hJT : J < (T.set (J + 1) x).length := by simp; omega
  rw [h]
  generalize T.set (J + 1) x = T' at hJT
  rw [List.drop_set, if_neg (by omega), Nat.sub_self, List.drop_eq_getElem_cons hJT, List.set_cons_zero]
theorem Row.newSet2 (w : World) (a : Addr) (v : Value) (a' : Addr) (v' : Value) (T : List Int) (hT : T.length = 20) : Row (((w.setCell a v).setCell a' v').alloc (.cells (arr T) 26)) w.heap.size T := by
  have h := Row.newSet (w.setCell a v) a' v' T hT
  have e : (w.setCell a v).heap.size = w.heap.size := by simp [World.setCell]
  rwa [e] at h

open Plain in
set_option maxRecDepth 10000 in
set_option maxHeartbeats 1000000 in
theorem f8_neg (v : Int) (w : World) (h0 : v < 0) (h1 : -9223372036854775808 ≤ v) : Calls Try.prog 8 #[.int .i64 v] w fun e w' =>
    ∃ T : List Int, e = .returned (.tuple #[.agg (arr T), .int .i64 (spellL v).length]) ∧ T.length = 20 ∧ T.take (spellL v).length = spellL v ∧ (spellL v).length ≤ 20 ∧ Below w.heap.size w w' := by
  have HW : Hid _ := wrap_neg v h0 h1
  have HU : Hid (dec v.natAbs = dec v.natAbs ++ zeros.drop 20) := by simp [Hid, zeros]
  have HV : Hid ((dec v.natAbs).length ≤ 20 - 1) := dec_19 v.natAbs (by omega)
  go_enter Try.func8, Try.ntmps8
  go_wp2
  go_loopw [5, 6] (fun u k wr => ∃ (un kn : Nat) (T : List Int), 2 ≤ kn ∧ kn ≤ 20 ∧ un ≤ 9223372036854775808 ∧ u = .int .u64 un ∧ k = .int .i64 kn ∧ Row wr w.heap.size zeros ∧ Row wr (w.heap.size + 1) T ∧ dec v.natAbs = dec un ++ T.drop kn ∧ (dec un).length ≤ kn - 1 ∧ Below w.heap.size w wr)
    (fun _ k _ => (intOf k).toNat)
  case atStart =>
    refine ⟨v.natAbs, 20, zeros, by omega, by omega, by omega, by rw [HW.out, show (v.natAbs : Int) = -v from by omega], rfl, ?_, ?_, HU.out, HV.out, ?_⟩
    · exact (Row.new w zeros rfl).alloc _
    · have := Row.new (w.alloc (.cells (arr zeros) 26)) zeros rfl
      simpa [arr_zeros] using this
    · exact ((Below.refl _ _).alloc (Nat.le_refl _) _).alloc (by simp) _
  case round =>
    obtain ⟨un, kn, T, hk1, hk2, hun, rfl, rfl, hN, hT, hdec, hlen, hB⟩ := hrel
    obtain ⟨K, rfl⟩ : ∃ K, kn = K + 1 := ⟨kn - 1, by omega⟩
    have HDE : Hid (dec v.natAbs = dec un ++ T.drop (K + 1)) := hdec
    have HLE : Hid ((dec un).length ≤ K) := hlen
    clear hdec hlen
    have c1 := hT.cell K (by omega)
    have c2 := hT.frozen K
    have hNlt := hN.lt
    have hTlt := hT.lt
    by_cases hu : un < 10
    · have hq : ((un : Int) / 10 == 0) = true := by rw [beq_iff_eq]; omega
      obtain ⟨J, rfl⟩ : ∃ J, K = J + 1 := ⟨K - 1, by omega⟩
      have d0 := hT.cell J (by omega)
      have d0f := hT.frozen J
      have HS : Hid (spellL v = ((T.set (J + 1) (48 + (un : Int) % 10)).set J 45).drop J) := by
        rw [Hid, spell_neg h0]
        exact neg_last hT.1 (by omega) (dig_last hT.1 (by omega) HDE.out hu)
      clear HDE HLE
      obtain ⟨wo, rfl⟩ : ∃ wo : World, wo = wr := ⟨_, rfl⟩
      have hT2 : Row (((wo.setCell ⟨w.heap.size + 1, J + 1, none⟩ (.int .u8 (48 + (un : Int) % 10))).setCell ⟨w.heap.size + 1, J, none⟩ (.int .u8 45)).alloc (.cells (arr zeros) 26)) (w.heap.size + 1) ((T.set (J + 1) (48 + (un : Int) % 10)).set J 45) := ((hT.set (J + 1) _).set J _).alloc _
      have hN2 : Row (((wo.setCell ⟨w.heap.size + 1, J + 1, none⟩ (.int .u8 (48 + (un : Int) % 10))).setCell ⟨w.heap.size + 1, J, none⟩ (.int .u8 45)).alloc (.cells (arr zeros) 26)) w.heap.size zeros := ((hN.other (by simp) _).other (by simp) _).alloc _
      have hO2 := Row.newSet2 wo ⟨w.heap.size + 1, J + 1, none⟩ (.int .u8 (48 + (un : Int) % 10)) ⟨w.heap.size + 1, J, none⟩ (.int .u8 45) zeros rfl
      have hB2 : Below w.heap.size w (((wo.setCell ⟨w.heap.size + 1, J + 1, none⟩ (.int .u8 (48 + (un : Int) % 10))).setCell ⟨w.heap.size + 1, J, none⟩ (.int .u8 45)).alloc (.cells (arr zeros) 26)) := ((hB.setCell (by simp) _).setCell (by simp) _).alloc (by have := hB.size; simp [World.setCell]; omega) _
      have HR : Hid (Row (((wo.setCell ⟨w.heap.size + 1, J + 1, none⟩ (.int .u8 (48 + (un : Int) % 10))).setCell ⟨w.heap.size + 1, J, none⟩ (.int .u8 45)).alloc (.cells (arr zeros) 26)) (w.heap.size + 1) ((T.set (J + 1) (48 + (un : Int) % 10)).set J 45) ∧
        Row (((wo.setCell ⟨w.heap.size + 1, J + 1, none⟩ (.int .u8 (48 + (un : Int) % 10))).setCell ⟨w.heap.size + 1, J, none⟩ (.int .u8 45)).alloc (.cells (arr zeros) 26)) w.heap.size zeros ∧
        Row (((wo.setCell ⟨w.heap.size + 1, J + 1, none⟩ (.int .u8 (48 + (un : Int) % 10))).setCell ⟨w.heap.size + 1, J, none⟩ (.int .u8 45)).alloc (.cells (arr zeros) 26)) wo.heap.size zeros ∧
        Below w.heap.size w (((wo.setCell ⟨w.heap.size + 1, J + 1, none⟩ (.int .u8 (48 + (un : Int) % 10))).setCell ⟨w.heap.size + 1, J, none⟩ (.int .u8 45)).alloc (.cells (arr zeros) 26))) := ⟨hT2, hN2, hO2, hB2⟩
      clear hT2 hN2 hO2 hB2 hB hN
      go_wp2
      go_loopw [8] (fun i w2 => ∃ (j : Nat) (T2 : List Int), J ≤ j ∧ j ≤ 20 ∧ i = .int .i64 j ∧ Row w2 (w.heap.size + 1) ((T.set (J + 1) (48 + (un : Int) % 10)).set J 45) ∧ Row w2 w.heap.size zeros ∧ Row w2 wo.heap.size T2 ∧ T2.take (j - J) = (((T.set (J + 1) (48 + (un : Int) % 10)).set J 45).drop J).take (j - J) ∧ Below w.heap.size w w2)
        (fun i _ => 20 - (intOf i).toNat)
      case atStart => exact ⟨J, zeros, Nat.le_refl _, by omega, rfl, HR.out.1, HR.out.2.1, HR.out.2.2.1, by simp, HR.out.2.2.2⟩
      case round =>
        clear HR c1 c2 hT d0 d0f
        obtain ⟨j, T2, hj1, hj2, rfl, hT', hN', hO', hcop, hB'⟩ := hrel
        have HCO : Hid (T2.take (j - J) = (((T.set (J + 1) (48 + (un : Int) % 10)).set J 45).drop J).take (j - J)) := hcop
        clear hcop
        by_cases hj : j < 20
        · have d1 := hT'.cell j hj
          have d2 := hO'.cell (j - J) (by omega)
          have d3 := hO'.frozen (j - J)
          go_wp2
          go_roundw
          case rel => exact ⟨j + 1, _, by omega, by omega, by go_num, hT'.other (by simp; omega) _, hN'.other (by simp; omega) _, hO'.set (j - J) _, copy_step hO'.1 hT'.1 hj1 hj HCO.out, hB'.setCell (by simp; omega) _⟩
          case measure => simp [intOf]; omega
        · obtain rfl : j = 20 := by omega
          obtain ⟨e1, e2⟩ := last_of hT'.1 hj1 HCO.out HS.out
          have HE : Hid _ := And.intro e1 e2
          clear e1 e2
          have hsz2 : (Try.prog.info? 26).map (·.size) = some (arr T2).size := by rw [arr_size, hO'.1]; exact Try.size26
          have HZ : Hid _ := hsz2
          clear hsz2
          go_wp2_with (first | (refine wpList_load_row rfl 26 (.tmp 7) rfl wo.heap.size rfl 26 (arr T2) (0, 0) _ hO'.2 Try.underlying26 rfl HZ.out ?_) | (refine wpList_store_row rfl 26 (.tmp 2) (.tmp 47) rfl w.heap.size (arr T2) rfl rfl 26 (arr zeros) hN'.2 HZ.out (by rw [arr_size, arr_size, hO'.1]; rfl) (arr_one T2) ?_))
          have hres := run_loadVar_row (P := Try.prog) (wr.setRow w.heap.size (arr T2)) w.heap.size 26 26 (arr T2) (0, 0) _ (hN'.setRow hO'.1).2 Try.underlying26 rfl HZ.out
          refine bodyPost_ret (v := .tuple #[.agg (arr T2), .int .i64 (20 - (J : Int))]) ?_ rfl ⟨T2, ?_, hO'.1, HE.out.2, by rw [HE.out.1]; omega, below_setRow' hB' (Nat.le_refl _) _⟩
          · rw [results_cell_tmp rfl]
            simp [asAddr, Result.andThen, hres]
          · rw [HE.out.1, show ((20 - J : Nat) : Int) = 20 - (J : Int) from by omega]
    · have hq : ((un : Int) / 10 == 0) = false := by rw [beq_eq_false_iff_ne]; omega
      go_wp2
      go_roundw
      case rel =>
        refine ⟨un / 10, K, _, ?_, by omega, by omega, by go_num, by go_num, hN.other (by simp) _, hT.set K _, ?_, dig_len (by omega) HLE.out, hB.setCell (by simp) _⟩
        · have := HLE.out
          have := dig_len (show 10 ≤ un by omega) this
          have := dec_pos (un / 10)
          omega
        · exact dig_more hT.1 hk2 HDE.out (by omega)
      case measure => simp [intOf]

open Plain in
/-- 'spell': twenty bytes, the first of them the canonical spelling of v; and its length. -/
theorem f8_any (v : Int) (w : World) (h : InRange v) : Calls Try.prog 8 #[.int .i64 v] w fun e w' =>
    ∃ T : List Int, e = .returned (.tuple #[.agg (arr T), .int .i64 (spellL v).length]) ∧ T.length = 20 ∧ T.take (spellL v).length = spellL v ∧ (spellL v).length ≤ 20 ∧ Below w.heap.size w w' := by
  unfold InRange at h
  by_cases h0 : v < 0
  · exact f8_neg v w h0 h.1
  · exact f8_pos v w (by omega) h.2

end Go.Proofs.Qxb6630387a
