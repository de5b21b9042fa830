import Derived.Test.Qxb6608752aRows
import Derived.WalkKit
import Derived.ProofKit
import Derived.OpenShut
import Derived.ShutString
import Derived.Below
import Derived.Deep.QuietTactic
import Derived.BigQuiet
import Derived.Lib.Builder
namespace Go.Proofs.Qxb6608752a.Cut
open Go.ChangeShapes Go.WideShapes Go.ChangeAt Go.RowKit
set_option linter.unusedVariables false

theorem hide {p : Prop} (h : p) : Hid p := h
theorem unhide {p : Prop} (h : Hid p) : p := h

/-- The call returned some bool. -/
def RetB (e : Ending) : Prop := ∃ r : Bool, e = .returned (.bool r)
theorem RetB.mk (r : Bool) : RetB (.returned (.bool r)) := ⟨r, rfl⟩

set_option maxHeartbeats 400000 in
theorem bytes13 (p m s : ByteArray) (c : Int) (w : World) (hp : p.size ≤ maxLen) (hm : m.size ≤ maxLen) (hs : s.size ≤ maxLen) :
    Calls Try.prog 13 #[.string p, .string m, .string s, .int .i64 c] w fun e w' => RetB e ∧ w = w' := by
  unfold maxLen at *
  go_enter Try.func13, Try.ntmps13
  go_wp2
  all_goals (go_ret; exact ⟨RetB.mk _, rfl⟩)

/-- Byte k of the suffix, read out of the whole and out of the suffix. -/
theorem byte_both (t suf : ByteArray) (k : Nat) (hk : k < suf.size) :
    ∃ c : Int, (∀ wx : World, (Instr.index 9 (.string (t ++ suf)) (.int .i64 ((t.size : Int) + (k : Int)))).run Try.prog wx = .ok (.int .u8 c) wx)
      ∧ ∀ wx : World, (Instr.index 9 (.string suf) (.int .i64 (k : Int))).run Try.prog wx = .ok (.int .u8 c) wx := by
  refine ⟨(suf[k].toNat : Int), fun wx => ?_, fun wx => ?_⟩
  · rw [run_index_string _ _ _ _ _ Try.underlying9, dif_pos (by simp only [ByteArray.size_append]; omega)]
    congr 3
    have e : ((t.size : Int) + (k : Int)).toNat = t.size + k := by omega
    simp only [e]
    rw [ByteArray.getElem_append_right (by omega)]
    simp
  · rw [run_index_string _ _ _ _ _ Try.underlying9, dif_pos (by omega)]
    rfl

set_option maxHeartbeats 400000 in
theorem suffix14 (t suf : ByteArray) (w : World) (h1 : t.size ≤ 1048576) (h2 : suf.size ≤ 1048576) :
    Calls Try.prog 14 #[.string (t ++ suf), .string suf] w fun e w' => e = .returned (.bool true) ∧ ∃ n, w' = w.drewN n := by
  go_enter Try.func14, Try.ntmps14
  go_wp2
  go_loopw [6] (fun i wr => ∃ k n : Nat, k ≤ suf.size ∧ i = .int .i64 k ∧ wr = w.drewN n) (fun i _ => suf.size - (intOf i).toNat)
  case atStart => exact ⟨0, 0, Nat.zero_le _, rfl, rfl⟩
  case round =>
    obtain ⟨k, n, hk, rfl, rfl⟩ := hrel
    by_cases hlt : k < suf.size
    · obtain ⟨c, hx1, hx2⟩ := byte_both t suf k hlt
      have hw : IntKind.i64.wrap ((t.size : Int) + (k : Int)) = (t.size : Int) + (k : Int) := by rw [IntKind.wrap_i64]; omega
      go_wp2
      go_quiet (fail)
      go_wp2
      go_roundw
      case rel => exact ⟨k + 1, n + nq, by omega, by go_num, rfl⟩
      case measure => simp [intOf]; omega
    · go_wp2
      go_ret
      exact ⟨rfl, _, rfl⟩

theorem grown_drewN {W w' : World} (h : Grown W w') (n : Nat) : Grown W (w'.drewN n) := h

theorem faultInfo : ∃ j, Try.prog.info? 53 = some j := Option.isSome_iff_exists.1 (by kernel_rfl)

set_option maxHeartbeats 1000000 in
theorem cut_short (p m s : ByteArray) (c : Int) (w : World) (hp : p.size ≤ maxLen) (hm : m.size ≤ maxLen) (hs : s.size ≤ maxLen)
    (hg : 1048576 < p.size ∨ 1048576 < m.size ∨ 1048576 < s.size ∨ 1048576 < p.size + m.size + s.size ∨ c < 0 ∨ (s.size : Int) < c) :
    Calls Try.prog 4 #[.string p, .string m, .string s, .int .i64 c] w fun e w' => e = .returned (.bool true) ∧ Grown w w' := by
  have H13 := hide (bytes13 p m s c w hp hm hs)
  unfold maxLen at hp hm hs
  go_enter Try.func4, Try.ntmps4
  go_wp2_with (go_at_call 13; refine (unhide H13).mono ?_; rintro e w' ⟨⟨r, rfl⟩, rfl⟩)
  all_goals (go_ret; exact ⟨rfl, Grown.refl _⟩)

theorem joined (s p : ByteArray) (c : Nat) (hc : c ≤ s.size) : s.extract 0 c ++ (s.extract c s.size ++ p) = s ++ p := by
  rw [← ByteArray.append_assoc]
  congr 1
  rw [ByteArray.extract_append_extract]
  simp [Nat.max_eq_right hc]

set_option maxHeartbeats 1000000 in
theorem cut_walk (p m s : ByteArray) (c : Nat) (w : World) (hp : p.size ≤ 1048576) (hm : m.size ≤ 1048576) (hs : s.size ≤ 1048576) (hpm : p.size + m.size + s.size ≤ 1048576) (hc : c ≤ s.size) :
    Calls Try.prog 4 #[.string p, .string m, .string s, .int .i64 c] w fun e w' => e = .returned (.bool true) ∧ Grown w w' := by
  have H13 := hide (bytes13 p m s c w (by unfold maxLen; omega) (by unfold maxLen; omega) (by unfold maxLen; omega))
  have H14 := hide (fun wx => suffix14 s p wx hs hp)
  obtain ⟨j, hj⟩ := faultInfo
  have hneq := fun wx ad => Lib.run_neq_ptr_same (P := Try.prog) wx ad Try.underlying24 hj
  clear hj
  have hjo : ((s.extract 0 c ++ (s.extract c s.size ++ p)).toList == (s ++ p).toList) = true := by rw [joined s p c hc]; simp
  go_enter Try.func4, Try.ntmps4
  go_wp2_with (first | (go_at_call 13; refine (unhide H13).mono ?_; rintro e w' ⟨⟨r, rfl⟩, rfl⟩) | (go_at_call 14; refine (unhide H14 _).mono ?_; rintro e w' ⟨rfl, n, rfl⟩) | go_in)
  any_goals (go_ret; exact ⟨rfl, Grown.refl _⟩)
  go_ret
  exact ⟨rfl, grown_drewN (((Grown.refl _).alloc _ _).alloc _ _) _⟩
end Go.Proofs.Qxb6608752a.Cut
