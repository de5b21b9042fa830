import Derived.Test.Qxb6613483aWalks
namespace Go.Proofs.Qxb6613483a
open Go.ChangeShapes Go.WideShapes Go.ChangeAt Go.RowKit
set_option linter.unusedVariables false

set_option maxHeartbeats 1000000 in
theorem bytes19 (w : World) (a1 : Option Addr) (l1 c1 b1 o1 : Nat) (f : Nat → ByteArray) (a2 : Option Addr) (l2 c2 : Nat) (a3 : Option Addr) (l3 c3 b3 o3 : Nat) (g : Nat → ByteArray) (d q : ByteArray)
    (hl1 : l1 ≤ maxLen) (hl2 : l2 ≤ maxLen) (hl3 : l3 ≤ maxLen) (hd : d.size ≤ maxLen) (hq : q.size ≤ maxLen) (hf : ∀ k, (f k).size ≤ maxLen) (hg : ∀ k, (g k).size ≤ maxLen)
    (hr1 : RowAt 22 w a1 l1 c1 b1 o1 (fun k => .string (f k))) (hr3 : RowAt 22 w a3 l3 c3 b3 o3 (fun k => .string (g k))) :
    Calls Try.prog 19 #[.slice a1 l1 c1, .slice a2 l2 c2, .slice a3 l3 c3, .string d, .string q] w fun e w' => RetB e ∧ w = w' := by
  unfold maxLen at *
  obtain ⟨hi1, hc1, _⟩ := hr1
  obtain ⟨hi3, hc3, _⟩ := hr3
  go_enter Try.func19, Try.ntmps19
  go_wp2
  any_goals (go_ret; exact ⟨RetB.mk _, rfl⟩)
  go_loop [11, 12] (fun n i => ∃ (k : Nat) (z : Int), k ≤ l1 ∧ i = .int .i64 k ∧ n = .int .i64 z ∧ 0 ≤ z ∧ z ≤ 1048576) (fun _ i => l1 - (intOf i).toNat)
  case atStart => exact ⟨0, _, Nat.zero_le _, rfl, rfl, by omega, by omega⟩
  case round =>
    obtain ⟨k, z, hk, rfl, rfl, hz0, hz1⟩ := hrel
    by_cases hlt : k < l1
    · have hc := hc1 k hlt
      have hs := hf k
      generalize f k = s at hc hs
      go_wp2
      any_goals (go_ret; exact ⟨RetB.mk _, rfl⟩)
      go_round
      case rel => exact ⟨k + 1, _, by omega, by go_num, rfl, by omega, by omega⟩
      case measure => simp [intOf]; omega
    · clear hk
      go_wp2
      any_goals (go_ret; exact ⟨RetB.mk _, rfl⟩)
      go_loop [11, 13] (fun n i => ∃ (k : Nat) (z : Int), k ≤ l3 ∧ i = .int .i64 k ∧ n = .int .i64 z ∧ 0 ≤ z ∧ z ≤ 1048576) (fun _ i => l3 - (intOf i).toNat)
      case atStart => exact ⟨0, _, Nat.zero_le _, rfl, rfl, by omega, by omega⟩
      case round =>
        obtain ⟨k, z, hk, rfl, rfl, hz0, hz1⟩ := hrel
        by_cases hlt : k < l3
        · have hc := hc3 k hlt
          have hs := hg k
          generalize g k = s at hc hs
          go_wp2
          any_goals (go_ret; exact ⟨RetB.mk _, rfl⟩)
          go_round
          case rel => exact ⟨k + 1, _, by omega, by go_num, rfl, by omega, by omega⟩
          case measure => simp [intOf]; omega
        · clear hk
          go_wp2
          all_goals (go_ret; exact ⟨RetB.mk _, rfl⟩)

set_option maxHeartbeats 2000000 in
theorem bytes22 (w : World) (a1 : Option Addr) (l1 c1 b1 o1 : Nat) (f : Nat → ByteArray) (a2 : Option Addr) (l2 c2 : Nat) (a3 : Option Addr) (l3 c3 b3 o3 : Nat) (g : Nat → ByteArray) (a4 : Option Addr) (l4 c4 b4 o4 : Nat) (h : Nat → ByteArray)
    (hl1 : l1 ≤ maxLen) (hl2 : l2 ≤ maxLen) (hl3 : l3 ≤ maxLen) (hl4 : l4 ≤ maxLen) (hf : ∀ k, (f k).size ≤ maxLen) (hg : ∀ k, (g k).size ≤ maxLen) (hh : ∀ k, (h k).size ≤ maxLen)
    (hr1 : RowAt 22 w a1 l1 c1 b1 o1 (fun k => .string (f k))) (hr3 : RowAt 22 w a3 l3 c3 b3 o3 (fun k => .string (g k))) (hr4 : RowAt 22 w a4 l4 c4 b4 o4 (fun k => .string (h k))) :
    Calls Try.prog 22 #[.slice a1 l1 c1, .slice a2 l2 c2, .slice a3 l3 c3, .slice a4 l4 c4] w fun e w' => RetB e ∧ w = w' := by
  unfold maxLen at *
  obtain ⟨hi1, hc1, _⟩ := hr1
  obtain ⟨hi3, hc3, _⟩ := hr3
  obtain ⟨hi4, hc4, _⟩ := hr4
  go_enter Try.func22, Try.ntmps22
  go_wp2
  any_goals (go_ret; exact ⟨RetB.mk _, rfl⟩)
  go_loop [9, 10] (fun n i => ∃ (k : Nat) (z : Int), k ≤ l1 ∧ i = .int .i64 k ∧ n = .int .i64 z ∧ 0 ≤ z ∧ z ≤ 1048576) (fun _ i => l1 - (intOf i).toNat)
  case atStart => exact ⟨0, _, Nat.zero_le _, rfl, rfl, by omega, by omega⟩
  case round =>
    obtain ⟨k, z, hk, rfl, rfl, hz0, hz1⟩ := hrel
    by_cases hlt : k < l1
    · have hc := hc1 k hlt
      have hs := hf k
      generalize f k = s at hc hs
      go_wp2
      any_goals (go_ret; exact ⟨RetB.mk _, rfl⟩)
      go_round
      case rel => exact ⟨k + 1, _, by omega, by go_num, rfl, by omega, by omega⟩
      case measure => simp [intOf]; omega
    · clear hk
      go_wp2
      any_goals (go_ret; exact ⟨RetB.mk _, rfl⟩)
      go_loop [9, 11] (fun n i => ∃ (k : Nat) (z : Int), k ≤ l3 ∧ i = .int .i64 k ∧ n = .int .i64 z ∧ 0 ≤ z ∧ z ≤ 1048576) (fun _ i => l3 - (intOf i).toNat)
      case atStart => exact ⟨0, _, Nat.zero_le _, rfl, rfl, by omega, by omega⟩
      case round =>
        obtain ⟨k, z, hk, rfl, rfl, hz0, hz1⟩ := hrel
        by_cases hlt : k < l3
        · have hc := hc3 k hlt
          have hs := hg k
          generalize g k = s at hc hs
          go_wp2
          any_goals (go_ret; exact ⟨RetB.mk _, rfl⟩)
          go_round
          case rel => exact ⟨k + 1, _, by omega, by go_num, rfl, by omega, by omega⟩
          case measure => simp [intOf]; omega
        · clear hk
          go_wp2
          any_goals (go_ret; exact ⟨RetB.mk _, rfl⟩)
          go_loop [9, 12] (fun n i => ∃ (k : Nat) (z : Int), k ≤ l4 ∧ i = .int .i64 k ∧ n = .int .i64 z ∧ 0 ≤ z ∧ z ≤ 1048576) (fun _ i => l4 - (intOf i).toNat)
          case atStart => exact ⟨0, _, Nat.zero_le _, rfl, rfl, by omega, by omega⟩
          case round =>
            obtain ⟨k, z, hk, rfl, rfl, hz0, hz1⟩ := hrel
            by_cases hlt : k < l4
            · have hc := hc4 k hlt
              have hs := hh k
              generalize h k = s at hc hs
              go_wp2
              any_goals (go_ret; exact ⟨RetB.mk _, rfl⟩)
              go_round
              case rel => exact ⟨k + 1, _, by omega, by go_num, rfl, by omega, by omega⟩
              case measure => simp [intOf]; omega
            · clear hk
              go_wp2
              all_goals (go_ret; exact ⟨RetB.mk _, rfl⟩)
end Go.Proofs.Qxb6613483a
