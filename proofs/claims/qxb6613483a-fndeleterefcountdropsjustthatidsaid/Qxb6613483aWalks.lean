import Derived.Test.Qxb6613483aRows
import Derived.Test.Qxb6613483aPlain
import Derived.WalkKit
import Derived.ProofKit
import Derived.OpenShut
import Derived.Below
import Derived.SliceStrings
import Derived.Deep.QuietTactic
import Derived.BigQuiet
import Derived.LaidEqlPtr
import Derived.WalkSpells
import Derived.Deep.OwnRows
namespace Go.Proofs.Qxb6613483a
open Go.ChangeShapes Go.WideShapes Go.ChangeAt Go.RowKit
set_option linter.unusedVariables false

theorem hide {p : Prop} (h : p) : Hid p := h
theorem unhide {p : Prop} (h : Hid p) : p := h

/-- A slice that is only read, whatever its address: what an index gives, and what the cells hold. -/
structure RowAt (t : TypeId) (w : World) (a : Option Addr) (len cap b off : Nat) (val : Nat → Value) : Prop where
  idx : ∀ (wx : World) (k : Nat), k < len → (Instr.indexAt t (.slice a len cap) (.int .i64 (k : Int))).run Try.prog wx = .ok (.pointer (some ⟨b, off + k, none⟩)) wx
  cell : ∀ k, k < len → w.cell? ⟨b, off + k, none⟩ = some (val k)
  low : 0 < len → b < w.heap.size

theorem RowAt.later {t : TypeId} {w w' : World} {a : Option Addr} {len cap b off : Nat} {val : Nat → Value} (h : RowAt t w a len cap b off val) (hk : ∀ b, b < w.heap.size → w'.heap[b]? = w.heap[b]?) (hs : w.heap.size ≤ w'.heap.size) : RowAt t w' a len cap b off val := by
  refine ⟨h.idx, fun k hk' => ?_, fun h0 => Nat.lt_of_lt_of_le (h.low h0) hs⟩
  rw [World.cell?_of_block (w := w) (hk b (h.low (by omega)))]
  exact h.cell k hk'

/-- The call returned some bool. -/
def RetB (e : Ending) : Prop := ∃ r : Bool, e = .returned (.bool r)
theorem RetB.mk (r : Bool) : RetB (.returned (.bool r)) := ⟨r, rfl⟩

/-! ### zzLast, zzIn -/
set_option maxHeartbeats 400000 in
theorem last28 (w : World) (a : Option Addr) (len cap b off : Nat) (f : Nat → ByteArray) (s : ByteArray) (hl : len ≤ 1048576) (hr : RowAt 22 w a len cap b off (fun k => .string (f k))) :
    Calls Try.prog 28 #[.slice a len cap, .string s] w fun e w' => e = .returned (.int .i64 (lastI f len s)) ∧ w = w' := by
  obtain ⟨hidx, hcell, _⟩ := hr
  go_enter Try.func28, Try.ntmps28
  go_wp2
  go_loop [5] (fun i => ∃ k : Nat, k ≤ len ∧ i = .int .i64 ((k : Int) - 1) ∧ lastI f len s = lastI f k s) (fun i => (intOf i + 1).toNat)
  case atStart => exact ⟨len, Nat.le_refl _, rfl, rfl⟩
  case round =>
    obtain ⟨k, hk, rfl, he⟩ := hrel
    have HE := hide he
    clear he
    by_cases hlt : 0 < k
    · obtain ⟨i, rfl⟩ : ∃ i, k = i + 1 := ⟨k - 1, by omega⟩
      have hi : i < len := hk
      have hc := hcell i hi
      have hq := beq_bytes (f i) s
      have HL := hide (show lastI f (i + 1) s = if f i = s then (i : Int) else lastI f i s from rfl)
      clear hcell hlt hk
      rw [show (((i + 1 : Nat) : Int) - 1) = (i : Int) from by omega]
      by_cases e : f i = s
      · rw [decide_eq_true e] at hq
        have E := hide e
        clear e
        go_wp2
        go_ret
        refine ⟨congrArg Ending.returned (congrArg (Value.int .i64) ?_), rfl⟩
        rw [HE.out, HL.out, if_pos E.out]
      · rw [decide_eq_false e] at hq
        have E := hide e
        clear e
        go_wp2
        go_round
        case rel => exact ⟨i, by omega, by go_num, by rw [HE.out, HL.out, if_neg E.out]⟩
        case measure => simp [intOf]
    · obtain rfl : k = 0 := by omega
      go_wp2
      go_ret
      refine ⟨congrArg Ending.returned (congrArg (Value.int .i64) ?_), rfl⟩
      rw [HE.out]; rfl

set_option maxHeartbeats 400000 in
theorem in32 (w : World) (a : Option Addr) (len cap b off : Nat) (f : Nat → ByteArray) (s : ByteArray) (hl : len ≤ 1048576) (hr : RowAt 22 w a len cap b off (fun k => .string (f k))) :
    Calls Try.prog 32 #[.slice a len cap, .string s] w fun e w' => e = .returned (.bool (decide (0 ≤ lastI f len s))) ∧ w = w' := by
  have H := hide (last28 w a len cap b off f s hl hr)
  clear hr
  go_enter Try.func32, Try.ntmps32
  go_wp2_with (go_at_call 28; refine (unhide H).mono ?_; rintro e w' ⟨rfl, rfl⟩)
  go_ret
  exact ⟨rfl, rfl⟩

/-! ### zzAddLens, zzMin3 -/
set_option maxHeartbeats 400000 in
theorem add11 (w : World) (z : Int) (a : Option Addr) (len cap b off : Nat) (f : Nat → ByteArray) (hl : len ≤ 1048576) (hr : RowAt 22 w a len cap b off (fun k => .string (f k))) :
    Calls Try.prog 11 #[.int .i64 z, .slice a len cap] w fun e w' => (∃ z', e = .returned (.int .i64 z')) ∧ w = w' := by
  obtain ⟨hidx, hcell, _⟩ := hr
  go_enter Try.func11, Try.ntmps11
  go_wp2
  go_loop [0, 5] (fun t i => ∃ (k : Nat) (y : Int), k ≤ len ∧ i = .int .i64 k ∧ t = .int .i64 y) (fun _ i => len - (intOf i).toNat)
  case atStart => exact ⟨0, z, Nat.zero_le _, rfl, rfl⟩
  case round =>
    obtain ⟨k, y, hk, rfl, rfl⟩ := hrel
    by_cases hlt : k < len
    · have hc := hcell k hlt
      generalize f k = s at hc
      clear hcell
      go_wp2
      any_goals (go_ret; exact ⟨⟨_, rfl⟩, rfl⟩)
      go_round
      case rel => exact ⟨k + 1, _, by omega, by go_num, rfl⟩
      case measure => simp [intOf]; omega
    · go_wp2
      go_ret
      exact ⟨⟨_, rfl⟩, rfl⟩

set_option maxHeartbeats 400000 in
theorem min12 (w : World) (a b c m : Nat) (hm : m = min a (min b c)) :
    Calls Try.prog 12 #[.int .i64 a, .int .i64 b, .int .i64 c] w fun e w' => e = .returned (.int .i64 m) ∧ w = w' := by
  have HM := hide hm
  clear hm
  by_cases h1 : b < a
  · by_cases h2 : c < b
    · obtain rfl : c = m := by have := HM.out; omega
      go_enter Try.func12, Try.ntmps12
      go_wp2
      go_ret
      exact ⟨rfl, rfl⟩
    · obtain rfl : b = m := by have := HM.out; omega
      go_enter Try.func12, Try.ntmps12
      go_wp2
      go_ret
      exact ⟨rfl, rfl⟩
  · by_cases h2 : c < a
    · obtain rfl : c = m := by have := HM.out; omega
      go_enter Try.func12, Try.ntmps12
      go_wp2
      go_ret
      exact ⟨rfl, rfl⟩
    · obtain rfl : a = m := by have := HM.out; omega
      go_enter Try.func12, Try.ntmps12
      go_wp2
      go_ret
      exact ⟨rfl, rfl⟩
end Go.Proofs.Qxb6613483a
