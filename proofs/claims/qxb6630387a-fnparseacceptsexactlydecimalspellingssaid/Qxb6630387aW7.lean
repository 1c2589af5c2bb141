import Derived.Test.Qxb6630387aW9
namespace Go.Proofs.Qxb6630387a
open Go.RowKit

open Plain in
theorem f8_m (v : Int) (w : World) (h : InRange v) (n : Nat) (hn : (spellL v).length = n) : Calls Try.prog 8 #[.int .i64 v] w fun e w' =>
    ∃ T : List Int, e = .returned (.tuple #[.agg (arr T), .int .i64 n]) ∧ T.length = 20 ∧ T.take n = spellL v ∧ n ≤ 20 ∧ Below w.heap.size w w' := by
  subst hn
  exact f8_any v w h

theorem heap_zero' (w : World) : (w.alloc (.cells #[.int .u8 0, .int .u8 0, .int .u8 0, .int .u8 0, .int .u8 0, .int .u8 0, .int .u8 0, .int .u8 0, .int .u8 0, .int .u8 0, .int .u8 0, .int .u8 0, .int .u8 0, .int .u8 0, .int .u8 0, .int .u8 0, .int .u8 0, .int .u8 0, .int .u8 0, .int .u8 0] 26)).heap[w.heap.size]? = some (.cells (arr zeros) 26 (0, 0)) := by
  rw [arr_zeros]
  show (w.heap.push _)[w.heap.size]? = _
  simp

theorem laid_row' (w : World) (T : List Int) (hT : T.length = 20) : Row ((w.alloc (.cells (arr zeros) 26)).setRow w.heap.size (arr T)) w.heap.size T ∧ Below w.heap.size w ((w.alloc (.cells (arr zeros) 26)).setRow w.heap.size (arr T)) :=
  ⟨(Row.new w zeros rfl).setRow hT, below_setRow' ((Below.refl _ _).alloc (Nat.le_refl _) _) (Nat.le_refl _) _⟩

theorem getD_take' {T L : List Int} {n j : Nat} (h : T.take n = L) (hj : j < L.length) : T.getD j 0 = L[j] := by
  subst h
  have : j < n ∧ j < T.length := by rw [List.length_take] at hj; omega
  simp [this.2]

theorem same_of_take {L S : List Int} {n : Nat} (hL : L.length = n) (hS : S.length = n) (h : L.take n = S.take n) : L = S := by
  rwa [List.take_of_length_le (by omega), List.take_of_length_le (by omega)] at h

open Plain in
set_option maxRecDepth 10000 in
set_option maxHeartbeats 1000000 in
/-- 'spells': true just where the bytes are the spelling of x. -/
theorem f10_any (ao : Option Addr) (n c : Nat) (L : List Int) (x : Int) (w : World) (hL : L.length = n) (h63 : n ≤ 9223372036854775807) (hl : LiesB w ao L) (hx : InRange x) :
    Calls Try.prog 10 #[.slice ao n c, .int .i64 x] w fun e w' => e = .returned (.bool (decide (L = spellL x))) ∧ Below w.heap.size w w' := by
  obtain ⟨m, HM⟩ := named (spellL x).length
  have HL : Hid (L.length = n) := hL
  clear hL
  go_enter Try.func10, Try.ntmps10
  go_wp2_with fail
  refine (f8_m x w hx m HM.out).mono ?_
  rintro e w1 ⟨T, rfl, hT, htk, hm, hB1⟩
  have HT : Hid (T.length = 20 ∧ T.take m = spellL x) := ⟨hT, htk⟩
  clear hT htk
  have HZ : Hid ((Try.prog.info? 26).map (·.size) = some (arr T).size) := by rw [Hid, arr_size, HT.out.1]; exact Try.size26
  obtain ⟨hbuf, hBb⟩ := laid_row' w1 T HT.out.1
  have hB2 : Below w.heap.size w ((w1.alloc (.cells (arr zeros) 26)).setRow w1.heap.size (arr T)) := hB1.trans (hBb.mono hB1.size)
  by_cases hnm : n = m
  · subst hnm
    go_wp2_with (refine wpList_store_row rfl 26 (.tmp 5) (.tmp 11) rfl w1.heap.size (arr T) rfl rfl 26 (arr zeros) (heap_zero' w1) HZ.out (by rw [arr_size, arr_size, HT.out.1]; rfl) (arr_one T) ?_)
    go_loopw [7] (fun i wr => ∃ j : Nat, j ≤ n ∧ i = .int .i64 j ∧ L.take j = (spellL x).take j ∧ Row wr w1.heap.size T ∧ Below w.heap.size w wr) (fun i _ => n - (intOf i).toNat)
    case atStart => exact ⟨0, Nat.zero_le _, rfl, by simp, hbuf, hB2⟩
    case round =>
      clear hbuf hBb hB2 hB1
      obtain ⟨j, hj, rfl, htk, hbuf, hB⟩ := hrel
      have HTK : Hid (L.take j = (spellL x).take j) := htk
      clear htk
      by_cases hlt : j < n
      · have hjL : j < L.length := by rw [HL.out]; omega
        have hjS : j < (spellL x).length := by rw [HM.out]; omega
        obtain ⟨⟨b, of, rfl, _, g0⟩, _⟩ := (hl.below hB) j hjL
        have b1 := hbuf.cell j (by omega)
        rw [getD_take' HT.out.2 hjS] at b1
        obtain ⟨p, HP⟩ := named L[j]
        obtain ⟨q, HQ⟩ := named (spellL x)[j]
        rw [HP.out] at g0
        rw [HQ.out] at b1
        by_cases hpq : p = q
        · subst hpq
          have HN : Hid (L.take (j + 1) = (spellL x).take (j + 1)) := by
            rw [Hid, List.take_succ_eq_append_getElem hjL, List.take_succ_eq_append_getElem hjS, HTK.out, HP.out, HQ.out]
          go_wp2
          go_quiet (fail)
          go_wp2
          go_roundw
          case rel => exact ⟨j + 1, by omega, by go_num, HN.out, hbuf, below_drewN hB _⟩
          case measure => simp [intOf]; omega
        · have hne : (p != q) = true := by simp [hpq]
          have HF : Hid (decide (L = spellL x) = false) := by
            rw [Hid, decide_eq_false_iff_not]
            intro e
            exact hpq (HP.out.symm.trans ((List.getElem_of_eq e hjL).trans HQ.out))
          clear hpq
          go_wp2
          go_quiet (fail)
          go_wp2
          go_ret
          exact ⟨(congrArg (fun b => Ending.returned (Value.bool b)) HF.out).symm, below_drewN hB _⟩
      · obtain rfl : j = n := by omega
        have HF : Hid (decide (L = spellL x) = true) := by
          rw [Hid, decide_eq_true_eq]
          exact same_of_take HL.out HM.out HTK.out
        go_wp2
        go_ret
        exact ⟨(congrArg (fun b => Ending.returned (Value.bool b)) HF.out).symm, hB⟩
  · have hne : ((n : Int) != (m : Int)) = true := by rw [bne_iff_ne]; omega
    have HF : Hid (decide (L = spellL x) = false) := by
      rw [Hid, decide_eq_false_iff_not]
      intro e
      apply hnm
      rw [← HL.out, ← HM.out, e]
    clear hnm
    go_wp2_with (refine wpList_store_row rfl 26 (.tmp 5) (.tmp 11) rfl w1.heap.size (arr T) rfl rfl 26 (arr zeros) (heap_zero' w1) HZ.out (by rw [arr_size, arr_size, HT.out.1]; rfl) (arr_one T) ?_)
    go_ret
    exact ⟨(congrArg (fun b => Ending.returned (Value.bool b)) HF.out).symm, hB2⟩

open Plain in
theorem f10_yes (ao : Option Addr) (n c : Nat) (L : List Int) (x : Int) (w : World) (hL : L.length = n) (h63 : n ≤ 9223372036854775807) (hl : LiesB w ao L) (hx : InRange x) (h : L = spellL x) :
    Calls Try.prog 10 #[.slice ao n c, .int .i64 x] w fun e w' => e = .returned (.bool true) ∧ Below w.heap.size w w' := by
  have := f10_any ao n c L x w hL h63 hl hx
  rwa [decide_eq_true h] at this
open Plain in
theorem f10_no (ao : Option Addr) (n c : Nat) (L : List Int) (x : Int) (w : World) (hL : L.length = n) (h63 : n ≤ 9223372036854775807) (hl : LiesB w ao L) (hx : InRange x) (h : ¬ L = spellL x) :
    Calls Try.prog 10 #[.slice ao n c, .int .i64 x] w fun e w' => e = .returned (.bool false) ∧ Below w.heap.size w w' := by
  have := f10_any ao n c L x w hL h63 hl hx
  rwa [decide_eq_false h] at this

/-! ### The loose reading modulo 2^64 -/
def uval (l : List Int) : Int := l.foldl (fun u c => (u * 10 + c - 48) % 18446744073709551616) 0
theorem uval_snoc (l : List Int) (c : Int) : uval (l ++ [c]) = (uval l * 10 + c - 48) % 18446744073709551616 := by simp [uval]
theorem uval_eq (l : List Int) : uval l = Plain.val l % 18446744073709551616 := by
  refine Plain.snoc_rec (p := fun l => uval l = Plain.val l % 18446744073709551616) ?_ ?_ l
  · rfl
  · intro l c ih
    rw [uval_snoc, Plain.val_snoc, ih]
    omega
theorem wrap3 (u c : Int) : IntKind.u64.wrap (IntKind.u64.wrap (IntKind.u64.wrap (u * 10) + c) - 48) = (u * 10 + c - 48) % 18446744073709551616 := by
  simp only [IntKind.wrap, IntKind.bits, IntKind.signed]
  simp
theorem range64 (x : Int) : Plain.InRange (wrap64 x) := by
  unfold Plain.InRange wrap64
  omega
theorem cval_pos (v : Int) (h0 : 0 ≤ v) (hr : Plain.InRange v) : wrap64 (uval (Plain.dec v.natAbs)) = v := by
  unfold Plain.InRange at hr
  rw [uval_eq, Plain.val_dec]
  unfold wrap64
  omega
theorem cval_neg (v : Int) (h0 : v < 0) (hr : Plain.InRange v) : wrap64 (IntKind.u64.wrap (-uval (Plain.dec v.natAbs))) = v := by
  unfold Plain.InRange at hr
  rw [uval_eq, Plain.val_dec]
  simp only [IntKind.wrap, IntKind.bits, IntKind.signed]
  unfold wrap64
  simp
  omega

open Plain in
/-- What is not the spelling of the loose reading is refused. -/
theorem refuse_pos {L : List Int} (h : ∀ r, L ≠ 45 :: r) (hn : ¬ L = spellL (wrap64 (uval L))) : parse L = none := by
  cases e : parse L with
  | none => rfl
  | some v =>
    obtain ⟨hr, hl⟩ := parse_some e
    exfalso
    apply hn
    by_cases h0 : v < 0
    · exact absurd (hl.trans (spell_neg h0)) (h _)
    · rw [spell_pos h0] at hl
      rw [hl, cval_pos v (by omega) hr, spell_pos h0]
open Plain in
theorem refuse_neg {D : List Int} (hn : ¬ 45 :: D = spellL (wrap64 (IntKind.u64.wrap (-uval D)))) : parse (45 :: D) = none := by
  cases e : parse (45 :: D) with
  | none => rfl
  | some v =>
    obtain ⟨hr, hl⟩ := parse_some e
    exfalso
    apply hn
    by_cases h0 : v < 0
    · rw [spell_neg h0] at hl
      have hd : D = dec v.natAbs := by injection hl
      rw [hd, cval_neg v h0 hr, spell_neg h0]
    · rw [spell_pos h0] at hl
      have := dec_digits v.natAbs 45 (by rw [← hl]; simp)
      omega

open Plain in
set_option maxHeartbeats 1000000 in
theorem f7_pos (ao : Option Addr) (n c : Nat) (L : List Int) (w : World) (hL : L.length = n) (h63 : n ≤ 9223372036854775807) (hl : LiesB w ao L)
    (hn0 : 0 < n) (b of : Nat) (e : Int) (hao : ao = some ⟨b, of, none⟩) (h0 : w.cell? ⟨b, of, none⟩ = some (.int .u8 e)) (he : (e == 45) = false) (h45 : ∀ r, L ≠ 45 :: r) :
    Calls Try.prog 7 #[.slice ao n c] w fun e w' => e = out (parse L) ∧ Below w.heap.size w w' := by
  have HL : Hid (L.length = n) := hL
  have HG : Hid (∀ r, L ≠ 45 :: r) := h45
  clear hL h45
  subst hao
  · go_enter Try.func7, Try.ntmps7
    go_wp2
    go_loop [6, 7] (fun u i => ∃ k : Nat, k ≤ n ∧ i = .int .i64 k ∧ u = .int .u64 (uval (L.take k))) (fun _ i => n - (intOf i).toNat)
    case atStart => exact ⟨0, Nat.zero_le _, rfl, rfl⟩
    case round =>
      obtain ⟨k, hk, rfl, rfl⟩ := hrel
      by_cases hlt : k < n
      · have hkL : k < L.length := by rw [HL.out]; omega
        obtain ⟨⟨b', of', e', _, g⟩, hx0, hx1⟩ := hl k hkL
        cases e'
        obtain ⟨x, HX⟩ := named L[k]
        rw [HX.out] at g hx0 hx1
        obtain ⟨U, HU⟩ := named (uval (L.take k))
        rw [HU.out]
        have HS : Hid (uval (L.take (k + 1)) = (U * 10 + x - 48) % 18446744073709551616) := by
          rw [Hid, List.take_succ_eq_append_getElem hkL, uval_snoc, HU.out, HX.out]
        go_wp2
        go_round
        case rel => exact ⟨k + 1, by omega, by go_num, by rw [HS.out, ← wrap3]⟩
        case measure => simp [intOf]; omega
      · obtain rfl : k = n := by omega
        rw [List.take_of_length_le (by rw [HL.out]; omega)]
        by_cases hy : L = spellL (wrap64 (uval L))
        · have HP : Hid (parse L = some (wrap64 (uval L))) := by
            rw [Hid]
            have := parse_spell (wrap64 (uval L)) (range64 _)
            rwa [← hy] at this
          have HY : Hid (L = spellL (wrap64 (uval L))) := hy
          clear hy
          go_wp2_with fail
          refine (f10_yes (some ⟨b, of, none⟩) k c L (wrap64 (uval L)) w HL.out h63 hl (range64 _) HY.out).mono ?_
          rintro e w' ⟨rfl, hB⟩
          go_wp2_with fail
          go_ret2
          exact ⟨by rw [HP.out]; rfl, hB⟩
        · have HP : Hid (parse L = none) := refuse_pos HG.out hy
          have HY : Hid (¬ L = spellL (wrap64 (uval L))) := hy
          clear hy
          go_wp2_with fail
          refine (f10_no (some ⟨b, of, none⟩) k c L (wrap64 (uval L)) w HL.out h63 hl (range64 _) HY.out).mono ?_
          rintro e w' ⟨rfl, hB⟩
          go_wp2_with fail
          go_ret2
          exact ⟨by rw [HP.out]; rfl, hB⟩

open Plain in
set_option maxHeartbeats 1000000 in
theorem f7_neg (ao : Option Addr) (n c : Nat) (D : List Int) (w : World) (hL : D.length = n) (h63 : n + 1 ≤ 9223372036854775807) (hl : LiesB w ao (45 :: D))
    (b of : Nat) (hao : ao = some ⟨b, of, none⟩) (h0 : w.cell? ⟨b, of, none⟩ = some (.int .u8 45)) :
    Calls Try.prog 7 #[.slice ao (n + 1) c] w fun e w' => e = out (parse (45 :: D)) ∧ Below w.heap.size w w' := by
  have HL : Hid (D.length = n) := hL
  have hl0 : (0 : Int) < (n : Int) + 1 := by omega
  clear hL
  subst hao
  · go_enter Try.func7, Try.ntmps7
    go_wp2
    go_loop [6, 7] (fun u i => ∃ k : Nat, k ≤ n ∧ i = .int .i64 ((k : Int) + 1) ∧ u = .int .u64 (uval (D.take k))) (fun _ i => n + 1 - (intOf i).toNat)
    case atStart => exact ⟨0, Nat.zero_le _, by simp, rfl⟩
    case round =>
      obtain ⟨k, hk, rfl, rfl⟩ := hrel
      by_cases hlt : k < n
      · have hkL : k < D.length := by rw [HL.out]; omega
        obtain ⟨⟨b', of', e', _, g⟩, hx0, hx1⟩ := hl (k + 1) (by simpa using hkL)
        cases e'
        simp only [List.getElem_cons_succ] at g hx0 hx1
        obtain ⟨x, HX⟩ := named D[k]
        rw [HX.out] at g hx0 hx1
        obtain ⟨U, HU⟩ := named (uval (D.take k))
        rw [HU.out]
        have HS : Hid (uval (D.take (k + 1)) = (U * 10 + x - 48) % 18446744073709551616) := by
          rw [Hid, List.take_succ_eq_append_getElem hkL, uval_snoc, HU.out, HX.out]
        go_wp2
        go_round
        case rel => exact ⟨k + 1, by omega, by go_num, by rw [HS.out, ← wrap3]⟩
        case measure => simp [intOf]; omega
      · obtain rfl : k = n := by omega
        rw [List.take_of_length_le (by rw [HL.out]; omega)]
        by_cases hy : 45 :: D = spellL (wrap64 (IntKind.u64.wrap (-uval D)))
        · have HP : Hid (parse (45 :: D) = some (wrap64 (IntKind.u64.wrap (-uval D)))) := by
            rw [Hid]
            have := parse_spell (wrap64 (IntKind.u64.wrap (-uval D))) (range64 _)
            rwa [← hy] at this
          have HY : Hid (45 :: D = spellL (wrap64 (IntKind.u64.wrap (-uval D)))) := hy
          clear hy
          go_wp2_with fail
          refine (f10_yes (some ⟨b, of, none⟩) (k + 1) c (45 :: D) (wrap64 (IntKind.u64.wrap (-uval D))) w (by simp [HL.out]) h63 hl (range64 _) HY.out).mono ?_
          rintro e w' ⟨rfl, hB⟩
          go_wp2_with fail
          go_ret2
          exact ⟨by rw [HP.out]; rfl, hB⟩
        · have HP : Hid (parse (45 :: D) = none) := refuse_neg hy
          have HY : Hid (¬ 45 :: D = spellL (wrap64 (IntKind.u64.wrap (-uval D)))) := hy
          clear hy
          go_wp2_with fail
          refine (f10_no (some ⟨b, of, none⟩) (k + 1) c (45 :: D) (wrap64 (IntKind.u64.wrap (-uval D))) w (by simp [HL.out]) h63 hl (range64 _) HY.out).mono ?_
          rintro e w' ⟨rfl, hB⟩
          go_wp2_with fail
          go_ret2
          exact ⟨by rw [HP.out]; rfl, hB⟩

open Plain in
set_option maxHeartbeats 1000000 in
theorem f7_nil (ao : Option Addr) (c : Nat) (w : World) : Calls Try.prog 7 #[.slice ao 0 c] w fun e w' => e = out (parse []) ∧ Below w.heap.size w w' := by
  go_enter Try.func7, Try.ntmps7
  go_wp2
  go_loop [6, 7] (fun u i => u = .int .u64 0 ∧ i = .int .i64 0) (fun _ _ => 0)
  case atStart => exact ⟨rfl, rfl⟩
  case round =>
    obtain ⟨rfl, rfl⟩ := hrel
    go_wp2_with fail
    refine (f10_no ao 0 c [] 0 w rfl (by omega) (fun i hi => by simp at hi) ⟨by omega, by omega⟩ (by simp [spellL, dec_small])).mono ?_
    rintro e w' ⟨rfl, hB⟩
    go_wp2_with fail
    go_ret2
    exact ⟨rfl, hB⟩

open Plain in
/-- 'spellingValue' gives what 'Parse' gives. -/
theorem f7_any (ao : Option Addr) (n c : Nat) (L : List Int) (w : World) (hL : L.length = n) (h63 : n ≤ 9223372036854775807) (hl : LiesB w ao L) :
    Calls Try.prog 7 #[.slice ao n c] w fun e w' => e = out (parse L) ∧ Below w.heap.size w w' := by
  cases L with
  | nil =>
    obtain rfl : n = 0 := hL.symm
    exact f7_nil ao c w
  | cons x R =>
    obtain ⟨⟨b, of, e, _, g⟩, _⟩ := hl 0 (by simp)
    have g' : w.cell? ⟨b, of, none⟩ = some (.int .u8 x) := g
    by_cases hx : x = 45
    · subst hx
      obtain rfl : n = R.length + 1 := hL.symm
      exact f7_neg ao R.length c R w rfl h63 hl b of e g'
    · exact f7_pos ao n c (x :: R) w hL h63 hl (by rw [← hL]; simp) b of x e g' (by rw [beq_eq_false_iff_ne]; exact hx) (fun r hr => by injection hr with hr _; exact hx hr)

end Go.Proofs.Qxb6630387a
