import Derived.Test.Qxb6630294aBase
namespace Go.Proofs.Qxb6630294a
open Go.RowKit

set_option maxHeartbeats 1000000 in
theorem f5_any (ctx content : ByteArray) (ao : Option Addr) (n c : Nat) (k0 : Int) (L : List Msg) (w : World) (hL : L.length = n) (hn : n ≤ 9223372036854775807) (hl : Lies w ao L) :
    Calls Try.prog 5 #[.string ctx, .slice ao n c, .string content, .int .i64 k0] w fun e w' => IsBool e ∧ w' = w := by
  go_enter Try.func5, Try.ntmps5
  go_wp2
  all_goals try (go_ret; exact ⟨isBool _, rfl⟩)
  go_loop [9, 10] (fun z i => ∃ (k : Nat) (t : Int), k ≤ n ∧ i = .int .i64 k ∧ z = .int .i64 t) (fun _ i => n - (intOf i).toNat)
  case atStart => exact ⟨0, _, Nat.zero_le _, rfl, rfl⟩
  case round =>
    obtain ⟨k, t, hk, rfl, rfl⟩ := hrel
    by_cases hlt : k < n
    · obtain ⟨b, of, rfl, hb, g0, g1⟩ := hl k (by omega)
      go_wp2
      all_goals try (go_ret; exact ⟨isBool _, rfl⟩)
      all_goals
        go_round
        case rel => exact ⟨k + 1, _, by omega, by go_num, rfl⟩
        case measure => simp [intOf]; omega
    · go_wp2
      all_goals (go_ret; exact ⟨isBool _, rfl⟩)

set_option maxHeartbeats 1000000 in
theorem f6_any (ctx content : ByteArray) (ao : Option Addr) (n c : Nat) (m : Msg) (L : List Msg) (w : World) (hL : L.length = n) (hn : n ≤ 9223372036854775807) (hl : Lies w ao L) :
    Calls Try.prog 6 #[.string ctx, .string content, .slice ao n c, .agg #[.string m.1, .string m.2]] w fun e w' => Fits n e ∧ Below w.heap.size w w' := by
  have hb : Below w.heap.size w (w.alloc (.cells #[.string m.1, .string m.2] 26)) := (Below.refl _ _).alloc (Nat.le_refl _) _
  have hl' := hl.below hb
  go_enter Try.func6, Try.ntmps6
  go_wp2
  all_goals try (go_ret; exact ⟨fitsNot _, hb⟩)
  all_goals
    have hn2 : n ≤ 32768 := by omega
    go_loop [9, 10] (fun z i => ∃ (k : Nat) (t : Int), k ≤ n ∧ i = .int .i64 k ∧ z = .int .i64 t) (fun _ i => n - (intOf i).toNat)
    case atStart => exact ⟨0, _, Nat.zero_le _, rfl, rfl⟩
    case round =>
      obtain ⟨k, t, hk, rfl, rfl⟩ := hrel
      by_cases hlt : k < n
      · obtain ⟨b, of, rfl, hbl, g0, g1⟩ := hl' k (by omega)
        go_wp2
        all_goals try (go_ret; exact ⟨fitsNot _, hb⟩)
        all_goals
          go_round
          case rel => exact ⟨k + 1, _, by omega, by go_num, rfl⟩
          case measure => simp [intOf]; omega
      · go_wp2
        all_goals (go_ret; exact ⟨fitsYes hn2, hb⟩)

set_option maxHeartbeats 1000000 in
theorem f9_any (ctx content : ByteArray) (ao : Option Addr) (n c : Nat) (k0 : Int) (m : Msg) (L : List Msg) (w : World) (hL : L.length = n) (hn : n ≤ 9223372036854775807) (hl : Lies w ao L) :
    Calls Try.prog 9 #[.string ctx, .slice ao n c, .string content, .int .i64 k0, .agg #[.string m.1, .string m.2]] w fun e w' => IsBool e ∧ Below w.heap.size w w' := by
  have hb : Below w.heap.size w (w.alloc (.cells #[.string m.1, .string m.2] 26)) := (Below.refl _ _).alloc (Nat.le_refl _) _
  have hl' := hl.below hb
  go_enter Try.func9, Try.ntmps9
  go_wp2
  all_goals try (go_ret; exact ⟨isBool _, hb⟩)
  go_loop [11, 12] (fun z i => ∃ (k : Nat) (t : Int), k ≤ n ∧ i = .int .i64 k ∧ z = .int .i64 t) (fun _ i => n - (intOf i).toNat)
  case atStart => exact ⟨0, _, Nat.zero_le _, rfl, rfl⟩
  case round =>
    obtain ⟨k, t, hk, rfl, rfl⟩ := hrel
    by_cases hlt : k < n
    · obtain ⟨b, of, rfl, hbl, g0, g1⟩ := hl' k (by omega)
      go_wp2
      all_goals try (go_ret; exact ⟨isBool _, hb⟩)
      all_goals
        go_round
        case rel => exact ⟨k + 1, _, by omega, by go_num, rfl⟩
        case measure => simp [intOf]; omega
    · go_wp2
      all_goals (go_ret; exact ⟨isBool _, hb⟩)

end Go.Proofs.Qxb6630294a
