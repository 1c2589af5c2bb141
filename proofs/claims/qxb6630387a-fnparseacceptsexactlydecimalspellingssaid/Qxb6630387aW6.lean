import Derived.Test.Qxb6630387aRows
import Derived.Test.Qxb6630387aPlain
import Derived.WalkKit
import Derived.WalkSpells
import Derived.WalkLawsBesides
import Derived.ChangeAlike
import Derived.Deep.QuietTactic
import Derived.BigQuiet
namespace Go.Proofs.Qxb6630387a
open Go.RowKit

/-- What 'Parse' hands back. -/
def out (o : Option Int) : Ending := .returned (.tuple #[.int .i64 (o.getD 0), .bool o.isSome])

set_option maxHeartbeats 400000 in
theorem p_nil (ao : Option Addr) (c : Nat) (w : World) : Calls Try.prog 6 #[.slice ao 0 c] w fun e w' => e = out none ∧ ∃ q, w' = w.drewN q := by
  go_enter Try.func6, Try.ntmps6
  go_wp2
  go_quiet (fail)
  go_wp2
  go_ret2
  exact ⟨rfl, _, rfl⟩

set_option maxHeartbeats 400000 in
theorem p_minus (b of c : Nat) (w : World) (h0 : w.cell? ⟨b, of, none⟩ = some (.int .u8 45)) (_hc : 1 ≤ c) : Calls Try.prog 6 #[.slice (some ⟨b, of, none⟩) 1 c] w fun e w' => e = out none ∧ ∃ q, w' = w.drewN q := by
  go_enter Try.func6, Try.ntmps6
  go_wp2
  go_quiet (fail)
  go_wp2
  all_goals
    go_ret2
    exact ⟨rfl, _, rfl⟩

set_option maxHeartbeats 400000 in
theorem p_minus0 (b of m c : Nat) (w : World) (hm : 1 ≤ m) (hmc : m + 1 ≤ c) (h63 : m + 1 ≤ 9223372036854775807) (h0 : w.cell? ⟨b, of, none⟩ = some (.int .u8 45)) (h1 : w.cell? ⟨b, of + 1, none⟩ = some (.int .u8 48)) : Calls Try.prog 6 #[.slice (some ⟨b, of, none⟩) (m + 1) c] w fun e w' => e = out none ∧ ∃ q, w' = w.drewN q := by
  have hc1 : ¬ c = 1 := by omega
  have hl0 : (0 : Int) < (m : Int) + 1 := by omega
  have hm0 : ((m : Int) == 0) = false := by rw [beq_eq_false_iff_ne]; omega
  by_cases hm1 : 1 < m
  · go_enter Try.func6, Try.ntmps6
    go_wp2
    go_quiet (fail)
    go_wp2
    all_goals
      go_ret2
      exact ⟨rfl, _, rfl⟩
  · obtain rfl : m = 1 := by omega
    go_enter Try.func6, Try.ntmps6
    go_wp2
    go_quiet (fail)
    go_wp2
    all_goals
      go_ret2
      exact ⟨rfl, _, rfl⟩

open Plain in
theorem run_step {D : List Int} {k nv : Nat} (hk : k < D.length) (hr : run (D.take k) 0 = some nv) : run (D.take (k + 1)) 0 = run [D[k]] nv := by
  rw [List.take_succ_eq_append_getElem hk, run_append, hr]
  rfl

open Plain in
theorem run_stop {D : List Int} {k nv : Nat} (hk : k < D.length) (hr : run (D.take k) 0 = some nv) (h : ¬ (48 ≤ D[k] ∧ D[k] ≤ 57 ∧ nv ≤ 922337203685477580)) : run D 0 = none := by
  have e : D = D.take k ++ D[k] :: D.drop (k + 1) := by simp
  rw [e, run_append, hr]
  simp only [Option.bind_some, run]
  rw [if_neg h]

theorem neg_least : wrap64 (-wrap64 9223372036854775808) = -9223372036854775808 := by unfold wrap64; omega

theorem named {α : Type} (a : α) : ∃ x, Hid (a = x) := ⟨a, (rfl : a = a)⟩

open Plain in
theorem fin_t1 {D : List Int} {n : Nat} (h : run D 0 = some n) (hn : n ≤ 9223372036854775808) : fin true D = some (-(n : Int)) := by
  simp only [fin, h]; rw [if_pos trivial, if_pos hn]
open Plain in
theorem fin_t0 {D : List Int} {n : Nat} (h : run D 0 = some n) (hn : ¬ n ≤ 9223372036854775808) : fin true D = none := by
  simp only [fin, h]; rw [if_pos trivial, if_neg hn]
open Plain in
theorem fin_f1 {D : List Int} {n : Nat} (h : run D 0 = some n) (hn : n < 9223372036854775808) : fin false D = some (n : Int) := by
  simp only [fin, h]; rw [if_neg (by decide), if_pos hn]
open Plain in
theorem fin_f0 {D : List Int} {n : Nat} (h : run D 0 = some n) (hn : ¬ n < 9223372036854775808) : fin false D = none := by
  simp only [fin, h]; rw [if_neg (by decide), if_neg hn]

open Plain in
set_option maxHeartbeats 1000000 in
theorem p_negrun (b of m c : Nat) (D : List Int) (w : World) (hD : D.length = m) (hm : 1 ≤ m) (hmc : m + 1 ≤ c) (h63 : m + 1 ≤ 9223372036854775807) (h0 : w.cell? ⟨b, of, none⟩ = some (.int .u8 45))
    (hcell : ∀ i (h : i < D.length), w.cell? ⟨b, of + 1 + i, none⟩ = some (.int .u8 D[i])) (hby : ∀ i (h : i < D.length), 0 ≤ D[i] ∧ D[i] ≤ 255)
    (e : Int) (he1 : w.cell? ⟨b, of + 1, none⟩ = some (.int .u8 e)) (he : (e == 48) = false) :
    Calls Try.prog 6 #[.slice (some ⟨b, of, none⟩) (m + 1) c] w fun e w' => e = out (fin true D) ∧ ∃ q, w' = w.drewN q := by
  have hc1 : ¬ c = 1 := by omega
  have hl0 : (0 : Int) < (m : Int) + 1 := by omega
  have hm0 : ((m : Int) == 0) = false := by rw [beq_eq_false_iff_ne]; omega
  have HD : Hid (D.length = m) := hD
  clear hD
  have HC : Hid (∀ i (h : i < D.length), w.cell? ⟨b, of + 1 + i, none⟩ = some (.int .u8 D[i])) := hcell
  have HB : Hid (∀ i (h : i < D.length), 0 ≤ D[i] ∧ D[i] ≤ 255) := hby
  clear hcell hby
  obtain ⟨t, hm2⟩ : ∃ t, decide ((1 : Int) < (m : Int)) = t := ⟨_, rfl⟩
  cases t
  all_goals
    go_enter Try.func6, Try.ntmps6
    go_wp2
    go_quiet (fail)
    go_wp2
    clear he1 he h0 hc1 hm0 hm2
    go_loop [47, 6] (fun i n => ∃ k nv : Nat, k ≤ m ∧ i = .int .i64 k ∧ n = .int .u64 nv ∧ run (D.take k) 0 = some nv) (fun i _ => m - (intOf i).toNat)
    case atStart => exact ⟨0, 0, Nat.zero_le _, rfl, rfl, rfl⟩
    case round =>
      obtain ⟨k, nv, hk, rfl, rfl, hr⟩ := hrel
      have HR : Hid (run (D.take k) 0 = some nv) := hr
      clear hr
      by_cases hlt : k < m
      · have hkD : k < D.length := by rw [HD.out]; omega
        obtain ⟨x, HX⟩ := named D[k]
        have g : w.cell? ⟨b, of + 1 + k, none⟩ = some (.int .u8 x) := by rw [← HX.out]; exact HC.out k hkD
        have hx : 0 ≤ x ∧ x ≤ 255 := by rw [← HX.out]; exact HB.out k hkD
        obtain ⟨hx0, hx1⟩ := hx
        by_cases hok : 48 ≤ x ∧ x ≤ 57 ∧ nv ≤ 922337203685477580
        · obtain ⟨hy0, hy1, hy2⟩ := hok
          have HS : Hid (run (D.take (k + 1)) 0 = some (nv * 10 + (x - 48).toNat)) := by
            rw [Hid, run_step hkD HR.out, HX.out]
            simp only [run]
            rw [if_pos ⟨hy0, hy1, hy2⟩]
          go_wp2
          go_round
          case rel => exact ⟨k + 1, nv * 10 + (x - 48).toNat, by omega, by go_num, by go_num, HS.out⟩
          case measure => simp [intOf]; omega
        · have HF : Hid (out (fin true D) = out none) := by
            rw [Hid, fin, run_stop hkD HR.out (by rw [HX.out]; exact hok)]
          by_cases hy0 : x < 48
          · clear hok
            go_wp2
            go_ret2
            exact ⟨HF.out.symm, _, rfl⟩
          by_cases hy1 : 57 < x
          · clear hok
            go_wp2
            go_ret2
            exact ⟨HF.out.symm, _, rfl⟩
          have hy2 : 922337203685477580 < nv := by omega
          clear hok
          go_wp2
          go_ret2
          exact ⟨HF.out.symm, _, rfl⟩
      · obtain rfl : k = m := by omega
        have HE : Hid (run D 0 = some nv) := by
          have := HR.out
          rwa [List.take_of_length_le (by rw [HD.out]; omega)] at this
        by_cases h1 : nv < 9223372036854775808
        · have HF : Hid (out (fin true D) = out (some (-(nv : Int)))) := by
            rw [Hid, fin_t1 HE.out (by omega)]
          go_wp2
          go_ret2
          exact ⟨HF.out.symm, _, rfl⟩
        · have hb := run_bound D nv HE.out
          by_cases h2 : nv ≤ 9223372036854775808
          · obtain rfl : nv = 9223372036854775808 := by omega
            have HF : Hid (out (fin true D) = out (some (wrap64 (-wrap64 9223372036854775808)))) := by
              rw [Hid, fin_t1 HE.out h2, neg_least]; rfl
            clear h1 h2 hb
            go_wp2
            go_ret2
            exact ⟨HF.out.symm, _, rfl⟩
          · have HF : Hid (out (fin true D) = out none) := by
              rw [Hid, fin_t0 HE.out h2]
            obtain rfl : nv = 9223372036854775809 := by omega
            clear h1 h2 hb
            go_wp2
            go_ret2
            exact ⟨HF.out.symm, _, rfl⟩

theorem lss_yes (n : Int) (h : n < 9223372036854775808) : binOp .lss 31 (.int .u64 n) (.int .u64 9223372036854775808) = pure (.bool true) := by rw [binOp_lss, decide_eq_true h]
theorem lss_no (n : Int) (h : ¬ n < 9223372036854775808) : binOp .lss 31 (.int .u64 n) (.int .u64 9223372036854775808) = pure (.bool false) := by rw [binOp_lss, decide_eq_false h]

open Plain in
set_option maxHeartbeats 1000000 in
theorem p_posrun (b of m c : Nat) (D : List Int) (w : World) (hD : D.length = m) (hm : 1 ≤ m) (h63 : m ≤ 9223372036854775807)
    (hcell : ∀ i (h : i < D.length), w.cell? ⟨b, of + i, none⟩ = some (.int .u8 D[i])) (hby : ∀ i (h : i < D.length), 0 ≤ D[i] ∧ D[i] ≤ 255)
    (e : Int) (h0 : w.cell? ⟨b, of, none⟩ = some (.int .u8 e)) (he5 : (e == 45) = false) (he : (e == 48) = false ∨ m = 1) :
    Calls Try.prog 6 #[.slice (some ⟨b, of, none⟩) m c] w fun e w' => e = out (fin false D) ∧ ∃ q, w' = w.drewN q := by
  have hl0 : 0 < m := by omega
  have hm0 : ((m : Int) == 0) = false := by rw [beq_eq_false_iff_ne]; omega
  have HD : Hid (D.length = m) := hD
  clear hD
  have HC : Hid (∀ i (h : i < D.length), w.cell? ⟨b, of + i, none⟩ = some (.int .u8 D[i])) := hcell
  have HB : Hid (∀ i (h : i < D.length), 0 ≤ D[i] ∧ D[i] ≤ 255) := hby
  clear hcell hby
  have hsplit : (decide ((1 : Int) < (m : Int)) = false) ∨ (decide ((1 : Int) < (m : Int)) = true ∧ (e == 48) = false) := by
    rcases he with he | he
    · rcases Nat.lt_or_ge 1 m with h | h
      · right; exact ⟨by simp; omega, he⟩
      · left; simp; omega
    · left; simp; omega
  clear he
  rcases hsplit with hm2 | ⟨hm2, he⟩
  all_goals
    go_enter Try.func6, Try.ntmps6
    go_wp2
    go_quiet (fail)
    go_wp2
    clear h0 hm0 hm2
    go_loop [47, 6] (fun i n => ∃ k nv : Nat, k ≤ m ∧ i = .int .i64 k ∧ n = .int .u64 nv ∧ run (D.take k) 0 = some nv) (fun i _ => m - (intOf i).toNat)
    case atStart => exact ⟨0, 0, Nat.zero_le _, rfl, rfl, rfl⟩
    case round =>
      obtain ⟨k, nv, hk, rfl, rfl, hr⟩ := hrel
      have HR : Hid (run (D.take k) 0 = some nv) := hr
      clear hr
      by_cases hlt : k < m
      · have hkD : k < D.length := by rw [HD.out]; omega
        obtain ⟨x, HX⟩ := named D[k]
        have g : w.cell? ⟨b, of + k, none⟩ = some (.int .u8 x) := by rw [← HX.out]; exact HC.out k hkD
        have hx : 0 ≤ x ∧ x ≤ 255 := by rw [← HX.out]; exact HB.out k hkD
        obtain ⟨hx0, hx1⟩ := hx
        by_cases hok : 48 ≤ x ∧ x ≤ 57 ∧ nv ≤ 922337203685477580
        · obtain ⟨hy0, hy1, hy2⟩ := hok
          have HS : Hid (run (D.take (k + 1)) 0 = some (nv * 10 + (x - 48).toNat)) := by
            rw [Hid, run_step hkD HR.out, HX.out]
            simp only [run]
            rw [if_pos ⟨hy0, hy1, hy2⟩]
          go_wp2
          go_round
          case rel => exact ⟨k + 1, nv * 10 + (x - 48).toNat, by omega, by go_num, by go_num, HS.out⟩
          case measure => simp [intOf]; omega
        · have HF : Hid (out (fin false D) = out none) := by
            rw [Hid, fin, run_stop hkD HR.out (by rw [HX.out]; exact hok)]
          by_cases hy0 : x < 48
          · clear hok
            go_wp2
            go_ret2
            exact ⟨HF.out.symm, _, rfl⟩
          by_cases hy1 : 57 < x
          · clear hok
            go_wp2
            go_ret2
            exact ⟨HF.out.symm, _, rfl⟩
          have hy2 : 922337203685477580 < nv := by omega
          clear hok
          go_wp2
          go_ret2
          exact ⟨HF.out.symm, _, rfl⟩
      · obtain rfl : k = m := by omega
        have HE : Hid (run D 0 = some nv) := by
          have := HR.out
          rwa [List.take_of_length_le (by rw [HD.out]; omega)] at this
        by_cases h1 : nv < 9223372036854775808
        · have HF : Hid (out (fin false D) = out (some (nv : Int))) := by
            rw [Hid, fin_f1 HE.out h1]
          have h2 : (nv : Int) ≤ 9223372036854775807 := by omega
          have hlt := lss_yes (nv : Int) (by omega)
          clear h1
          go_wp2
          go_ret2
          exact ⟨HF.out.symm, _, rfl⟩
        · have HF : Hid (out (fin false D) = out none) := by
            rw [Hid, fin_f0 HE.out h1]
          have hlt := lss_no (nv : Int) (by omega)
          clear h1
          go_wp2
          go_ret2
          exact ⟨HF.out.symm, _, rfl⟩

set_option maxHeartbeats 400000 in
theorem p_pos0 (b of m c : Nat) (w : World) (hm : 1 < m) (h63 : m ≤ 9223372036854775807) (h0 : w.cell? ⟨b, of, none⟩ = some (.int .u8 48)) : Calls Try.prog 6 #[.slice (some ⟨b, of, none⟩) m c] w fun e w' => e = out none ∧ ∃ q, w' = w.drewN q := by
  have hl0 : 0 < m := by omega
  have hm0 : ((m : Int) == 0) = false := by rw [beq_eq_false_iff_ne]; omega
  have hm2 : decide ((1 : Int) < (m : Int)) = true := by simp; omega
  go_enter Try.func6, Try.ntmps6
  go_wp2
  go_quiet (fail)
  go_wp2
  all_goals
    go_ret2
    exact ⟨rfl, _, rfl⟩

end Go.Proofs.Qxb6630387a
