import Derived.Test.Qxb6605987aRows
import Derived.WalkKit
import Derived.ProofKit
import Derived.OpenShut
import Derived.Below
import Derived.Deep.QuietTactic
import Derived.BigQuiet
import Derived.WalkSpells
import Derived.Deep.OwnRows
namespace Go.Proofs.Qxb6605987a
open Go.ChangeShapes Go.WideShapes Go.ChangeAt Go.RowKit
set_option linter.unusedVariables false

theorem hide {p : Prop} (h : p) : Hid p := h
theorem unhide {p : Prop} (h : Hid p) : p := h

/-- A slice that is only read, whatever its address: what an index gives, and what the cells hold. -/
structure RowAt (t : TypeId) (w : World) (a : Option Addr) (len cap b off : Nat) (val : Nat → Value) : Prop where
  idx : ∀ (wx : World) (k : Nat), k < len → (Instr.indexAt t (.slice a len cap) (.int .i64 (k : Int))).run Try.prog wx = .ok (.pointer (some ⟨b, off + k, none⟩)) wx
  cell : ∀ k, k < len → w.cell? ⟨b, off + k, none⟩ = some (val k)
  low : 0 < len → b < w.heap.size

theorem RowAt.later {t : TypeId} {w w' : World} {a : Option Addr} {len cap b off : Nat} {val : Nat → Value} (h : RowAt t w a len cap b off val) (hk : ∀ b, b < w.heap.size → w'.heap[b]? = w.heap[b]?) (hs : w.heap.size ≤ w'.heap.size) : RowAt t w' a len cap b off val := by
  refine ⟨h.idx, fun k hk' => ?_, fun h0 => Nat.lt_of_lt_of_le (h.low h0) hs⟩
  rw [World.cell?_of_block (w := w) (hk b (h.low (by omega)))]
  exact h.cell k hk'

theorem RowAt.below {t : TypeId} {W wr : World} {a : Option Addr} {len cap b off : Nat} {val : Nat → Value} (h : RowAt t W a len cap b off val) (hb : Below W.heap.size W wr) : RowAt t wr a len cap b off val := h.later hb.block hb.size

theorem RowAt.drewN {t : TypeId} {w : World} {a : Option Addr} {len cap b off : Nat} {val : Nat → Value} (h : RowAt t w a len cap b off val) (q : Nat) : RowAt t (w.drewN q) a len cap b off val := ⟨h.idx, h.cell, h.low⟩

/-- The call returned some bool. -/
def RetB (e : Ending) : Prop := ∃ r : Bool, e = .returned (.bool r)
theorem RetB.mk (r : Bool) : RetB (.returned (.bool r)) := ⟨r, rfl⟩

set_option maxHeartbeats 400000 in
theorem bytes7 (w : World) (a1 : Option Addr) (l1 c1 : Nat) (a2 : Option Addr) (l2 c2 : Nat) (x y : Int) (k1 : l1 ≤ maxLen) (k2 : l2 ≤ maxLen) :
    Calls Try.prog 7 #[.slice a1 l1 c1, .slice a2 l2 c2, .int .u32 x, .int .u32 y] w fun e w' => RetB e ∧ w = w' := by
  unfold maxLen at *
  go_enter Try.func7, Try.ntmps7
  go_wp2
  all_goals (go_ret; exact ⟨RetB.mk _, rfl⟩)

/-- The span lies in one of the two texts. -/
def InOne (l1 l2 x y : Nat) : Prop := x + y ≤ l1 ∨ (l1 ≤ x ∧ x + y ≤ l1 + l2)

set_option maxHeartbeats 400000 in
theorem span8 (w : World) (l1 l2 x y : Nat) (k1 : l1 ≤ 262144) (k2 : l2 ≤ 262144) (kx : x ≤ 4294967295) (ky : y ≤ 4294967295) (b : Bool) (hb : (b = true ∧ InOne l1 l2 x y) ∨ (b = false ∧ ¬ InOne l1 l2 x y)) :
    Calls Try.prog 8 #[.int .i64 l1, .int .i64 l2, .int .u32 x, .int .u32 y] w fun e w' => e = .returned (.bool b) ∧ w = w' := by
  unfold InOne at hb
  by_cases h1 : x + y ≤ l1
  · obtain rfl : b = true := by rcases hb with hb | hb; exact hb.1; omega
    clear hb
    go_enter Try.func8, Try.ntmps8
    go_wp2
    go_ret
    exact ⟨rfl, rfl⟩
  · by_cases h2 : l1 ≤ x
    · by_cases h3 : x + y ≤ l1 + l2
      · obtain rfl : b = true := by rcases hb with hb | hb; exact hb.1; omega
        have h3' : decide ((x : Int) + (y : Int) ≤ (l1 : Int) + (l2 : Int)) = true := decide_eq_true (by omega)
        clear hb
        go_enter Try.func8, Try.ntmps8
        go_wp2
        go_ret
        exact ⟨rfl, rfl⟩
      · obtain rfl : b = false := by rcases hb with hb | hb; omega; exact hb.1
        have h3' : decide ((x : Int) + (y : Int) ≤ (l1 : Int) + (l2 : Int)) = false := decide_eq_false (by omega)
        clear hb
        go_enter Try.func8, Try.ntmps8
        go_wp2
        go_ret
        exact ⟨rfl, rfl⟩
    · obtain rfl : b = false := by rcases hb with hb | hb; omega; exact hb.1
      clear hb
      go_enter Try.func8, Try.ntmps8
      go_wp2
      go_ret
      exact ⟨rfl, rfl⟩

set_option maxHeartbeats 400000 in
theorem same13 (w : World) (a1 : Option Addr) (l c1 b1 o1 : Nat) (a2 : Option Addr) (c2 b2 o2 : Nat) (v : Nat → Int) (hl : l ≤ 1048576)
    (h1 : RowAt 22 w a1 l c1 b1 o1 (fun k => .int .u8 (v k))) (h2 : RowAt 22 w a2 l c2 b2 o2 (fun k => .int .u8 (v k))) :
    Calls Try.prog 13 #[.slice a1 l c1, .slice a2 l c2] w fun e w' => e = .returned (.bool true) ∧ ∃ q, w' = w.drewN q := by
  obtain ⟨x1, y1, _⟩ := h1
  obtain ⟨x2, y2, _⟩ := h2
  go_enter Try.func13, Try.ntmps13
  go_wp2
  go_loopw [5] (fun i wr => ∃ k q : Nat, k ≤ l ∧ i = .int .i64 k ∧ wr = w.drewN q) (fun i _ => l - (intOf i).toNat)
  case atStart => exact ⟨0, 0, Nat.zero_le _, rfl, rfl⟩
  case round =>
    obtain ⟨k, q, hk, rfl, rfl⟩ := hrel
    by_cases hlt : k < l
    · have e1 := fun wx => x1 wx k hlt
      have e2 := fun wx => x2 wx k hlt
      have f1 := y1 k hlt
      have f2 := y2 k hlt
      clear x1 x2 y1 y2
      generalize v k = z at f1 f2
      go_wp2
      go_quiet (fail)
      go_wp2
      go_roundw
      case rel => exact ⟨k + 1, q + nq, by omega, by go_num, rfl⟩
      case measure => simp [intOf]; omega
    · go_wp2
      go_ret
      exact ⟨rfl, _, rfl⟩
end Go.Proofs.Qxb6605987a
