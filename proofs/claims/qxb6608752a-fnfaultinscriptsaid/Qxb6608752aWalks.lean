import Derived.Test.Qxb6608752aRows
import Derived.WalkKit
import Derived.ProofKit
import Derived.OpenShut
import Derived.ShutString
import Derived.Below
import Derived.SliceStrings
import Derived.Deep.QuietTactic
import Derived.BigQuiet
import Derived.Lib.Builder
namespace Go.Proofs.Qxb6608752a
open Go.ChangeShapes Go.WideShapes Go.ChangeAt Go.RowKit
set_option linter.unusedVariables false

/-- A slice that is only read, whatever its address: what an index gives, and what the cells hold. -/
structure RowAt (t : TypeId) (w : World) (a : Option Addr) (len cap b off : Nat) (val : Nat → Value) : Prop where
  idx : ∀ (wx : World) (k : Nat), k < len → (Instr.indexAt t (.slice a len cap) (.int .i64 (k : Int))).run Try.prog wx = .ok (.pointer (some ⟨b, off + k, none⟩)) wx
  cell : ∀ k, k < len → w.cell? ⟨b, off + k, none⟩ = some (val k)
  low : 0 < len → b < w.heap.size

theorem hide {p : Prop} (h : p) : Hid p := h
theorem unhide {p : Prop} (h : Hid p) : p := h

/-- The call returned some bool. -/
def RetB (e : Ending) : Prop := ∃ r : Bool, e = .returned (.bool r)
theorem RetB.mk (r : Bool) : RetB (.returned (.bool r)) := ⟨r, rfl⟩

set_option maxHeartbeats 400000 in
theorem bytes8 (p m : ByteArray) (a : Option Addr) (len cap b off : Nat) (ss : List ByteArray) (w : World) (hp : p.size ≤ maxLen) (hm : m.size ≤ maxLen) (hl : len ≤ maxLen) (hss : ∀ k, (ss.getD k ByteArray.empty).size ≤ maxLen)
    (hr : RowAt 22 w a len cap b off (fun k => .string (ss.getD k ByteArray.empty))) :
    Calls Try.prog 8 #[.string p, .string m, .slice a len cap] w fun e w' => RetB e ∧ w = w' := by
  unfold maxLen at *
  obtain ⟨hidx, hcell, _⟩ := hr
  go_enter Try.func8, Try.ntmps8
  go_wp2
  any_goals (go_ret; exact ⟨RetB.mk _, rfl⟩)
  go_loop [7, 8] (fun n i => ∃ (k : Nat) (z : Int), k ≤ len ∧ i = .int .i64 k ∧ n = .int .i64 z ∧ 0 ≤ z ∧ z ≤ 1048576) (fun _ i => len - (intOf i).toNat)
  case atStart => exact ⟨0, _, Nat.zero_le _, rfl, rfl, by omega, by omega⟩
  case round =>
    obtain ⟨k, z, hk, rfl, rfl, hz0, hz1⟩ := hrel
    by_cases hlt : k < len
    · have hc := hcell k hlt
      have hs := hss k
      generalize ss.getD k ByteArray.empty = s at hc hs
      clear hcell hss
      go_wp2
      any_goals (go_ret; exact ⟨RetB.mk _, rfl⟩)
      go_round
      case rel => exact ⟨k + 1, _, by omega, by go_num, rfl, by omega, by omega⟩
      case measure => simp [intOf]; omega
    · go_wp2
      go_ret
      exact ⟨RetB.mk _, rfl⟩

/-! ### The plain law -/
/-- The path after the first k steps. -/
def up (ss : List ByteArray) (p : ByteArray) : Nat → ByteArray
  | 0 => p
  | k + 1 => ss.getD k ByteArray.empty ++ up ss p k

/-- The lengths of the first k steps, sixteen more for each. -/
def tot (ss : List ByteArray) : Nat → Nat
  | 0 => 0
  | k + 1 => tot ss k + (16 + (ss.getD k ByteArray.empty).size)

theorem up_size (ss : List ByteArray) (p : ByteArray) (k : Nat) : (up ss p k).size ≤ p.size + tot ss k := by
  induction k with
  | zero => simp [up, tot]
  | succ k ih => simp only [up, tot, ByteArray.size_append]; omega

theorem tot_mono (ss : List ByteArray) {j k : Nat} (h : j ≤ k) : tot ss j ≤ tot ss k := by
  induction k with
  | zero => have : j = 0 := by omega
            subst this; exact Nat.le_refl _
  | succ k ih =>
    by_cases e : j = k + 1
    · subst e; exact Nat.le_refl _
    · have := ih (by omega); simp only [tot]; omega

theorem faultInfo : ∃ j, Try.prog.info? 53 = some j := Option.isSome_iff_exists.1 (by kernel_rfl)

set_option maxHeartbeats 1000000 in
theorem script_short (p m : ByteArray) (a : Option Addr) (len cap b off : Nat) (ss : List ByteArray) (w : World) (hp : p.size ≤ maxLen) (hm : m.size ≤ maxLen) (hl : len ≤ maxLen) (hss : ∀ k, (ss.getD k ByteArray.empty).size ≤ maxLen)
    (hr : RowAt 22 w a len cap b off (fun k => .string (ss.getD k ByteArray.empty))) (hg : 1048576 < p.size ∨ 1048576 < m.size ∨ 4096 < len ∨ 1048576 < p.size + m.size) :
    Calls Try.prog 3 #[.string p, .string m, .slice a len cap] w fun e w' => e = .returned (.bool true) ∧ Below w.heap.size w w' := by
  have H8 := hide (bytes8 p m a len cap b off ss w hp hm hl hss hr)
  unfold maxLen at hp hm hl
  clear hr hss
  go_enter Try.func3, Try.ntmps3
  go_wp2_with (go_at_call 8; refine (unhide H8).mono ?_; rintro e w' ⟨⟨r, rfl⟩, rfl⟩)
  all_goals (go_ret; exact ⟨rfl, Below.refl _ _⟩)

set_option maxHeartbeats 1000000 in
theorem script_walk (p m : ByteArray) (a : Option Addr) (len cap b off : Nat) (ss : List ByteArray) (w : World) (hp : p.size ≤ 1048576) (hm : m.size ≤ 1048576) (hl : len ≤ 4096) (hpm : p.size + m.size ≤ 1048576) (hss : ∀ k, (ss.getD k ByteArray.empty).size ≤ maxLen)
    (hr : RowAt 22 w a len cap b off (fun k => .string (ss.getD k ByteArray.empty))) :
    Calls Try.prog 3 #[.string p, .string m, .slice a len cap] w fun e w' => e = .returned (.bool true) ∧ Below w.heap.size w w' := by
  have H8 := hide (bytes8 p m a len cap b off ss w (by unfold maxLen; omega) (by unfold maxLen; omega) (by unfold maxLen; omega) hss hr)
  obtain ⟨j, hj⟩ := faultInfo
  have hneq := fun wx ad => Lib.run_neq_ptr_same (P := Try.prog) wx ad Try.underlying24 hj
  clear hj
  unfold maxLen at hss
  obtain ⟨hidx, hcell, hlow⟩ := hr
  go_enter Try.func3, Try.ntmps3
  go_wp2_with (go_at_call 8; refine (unhide H8).mono ?_; rintro e w' ⟨⟨r, rfl⟩, rfl⟩)
  any_goals (go_ret; exact ⟨rfl, Below.refl _ _⟩)
  clear H8
  go_loop [7, 8] (fun n i => ∃ (k : Nat), k ≤ len ∧ i = .int .i64 k ∧ n = .int .i64 ((p.size + m.size + tot ss k : Nat) : Int) ∧ p.size + m.size + tot ss k ≤ 1048576) (fun _ i => len - (intOf i).toNat)
  case atStart => exact ⟨0, Nat.zero_le _, rfl, by simp [tot], by simp only [tot]; omega⟩
  case round =>
    obtain ⟨k, hk, rfl, rfl, hz1⟩ := hrel
    by_cases hlt : k < len
    · have hc := hcell k hlt
      have hs := hss k
      have htk : tot ss (k + 1) = tot ss k + (16 + (ss.getD k ByteArray.empty).size) := rfl
      have HT : Hid _ := htk
      generalize ss.getD k ByteArray.empty = s at hc hs HT
      clear hcell hss htk
      go_wp2
      any_goals (go_ret; exact ⟨rfl, Below.refl _ _⟩)
      go_round
      case rel => exact ⟨k + 1, by omega, by go_num, by rw [HT.out]; go_num, by rw [HT.out]; omega⟩
      case measure => simp [intOf]; omega
    · obtain rfl : len = k := by omega
      have hB := hcell
      have htot : tot ss len ≤ 1048576 := by omega
      go_wp2_with (first | go_in)
      go_loopw [10] (fun i wr => ∃ k : Nat, k ≤ len ∧ i = .int .i64 k ∧ wr = w.alloc (.cells #[.string (up ss p k), .string m] 53)) (fun i _ => len - (intOf i).toNat)
      case atStart => exact ⟨0, Nat.zero_le _, rfl, rfl⟩
      case round =>
        obtain ⟨k, hk, rfl, rfl⟩ := hrel
        by_cases hlt : k < len
        · have hc := hcell k hlt
          have hs : (ss.getD k ByteArray.empty).size ≤ 1048576 := by have := tot_mono ss (show k + 1 ≤ len from hlt); simp only [tot] at this; omega
          have hu : (up ss p k).size ≤ 2097152 := by have := up_size ss p k; have := tot_mono ss hk; omega
          have hb : b < w.heap.size := hlow (by omega)
          have HT : Hid _ := hide (show up ss p (k + 1) = ss.getD k ByteArray.empty ++ up ss p k from rfl)
          generalize ss.getD k ByteArray.empty = s at hc hs HT
          generalize hq : up ss p k = q at hu HT
          clear hcell hss hB hlow hq
          go_wp2_with (first | go_in)
          go_roundw
          case rel => exact ⟨k + 1, by omega, by go_num, by rw [HT.out]⟩
          case measure => simp [intOf]; omega
        · obtain rfl : len = k := by omega
          go_wp2_with (first | go_in)
          go_loop [12, 13] (fun q i => ∃ (k : Nat) (s : ByteArray), k ≤ len ∧ i = .int .i64 ((k : Int) - 1) ∧ q = .string s ∧ s ++ up ss p k = up ss p len) (fun _ i => (intOf i + 1).toNat)
          case atStart => exact ⟨len, ByteArray.empty, Nat.le_refl _, rfl, rfl, by simp⟩
          case round =>
            obtain ⟨k, s, hk, rfl, rfl, hq⟩ := hrel
            have HQ := hide hq
            have hn := up_size ss p len
            have hsz : s.size ≤ 2097152 := by have := congrArg ByteArray.size hq; simp only [ByteArray.size_append] at this; omega
            clear hq
            by_cases hlt : 0 < k
            · obtain ⟨i, rfl⟩ : ∃ i, k = i + 1 := ⟨k - 1, by omega⟩
              have hc := hcell i (by omega)
              have hs : (ss.getD i ByteArray.empty).size ≤ 1048576 := by have := tot_mono ss hk; simp only [tot] at this; omega
              have HT : Hid _ := hide (show up ss p (i + 1) = ss.getD i ByteArray.empty ++ up ss p i from rfl)
              generalize ss.getD i ByteArray.empty = t at hc hs HT
              have hb : b < w.heap.size := hlow (by omega)
              have hi : i < len := hk
              clear hcell hss hB hn hlow htot hz1 hlt hk
              rw [show (((i + 1 : Nat) : Int) - 1) = (i : Int) from by omega]
              go_wp2
              go_round
              case rel => exact ⟨i, s ++ t, by omega, by go_num, rfl, by rw [← HQ.out, HT.out, ByteArray.append_assoc]⟩
              case measure => simp [intOf]
            · obtain rfl : k = 0 := by omega
              have hE : up ss p len = s ++ p := HQ.out.symm
              rw [hE]
              clear hE HQ hn hcell hss hB hlow htot hz1 hidx
              go_wp2_with (first | go_in)
              go_ret
              exact ⟨rfl, (Below.refl _ _).alloc (Nat.le_refl _) _⟩
end Go.Proofs.Qxb6608752a
