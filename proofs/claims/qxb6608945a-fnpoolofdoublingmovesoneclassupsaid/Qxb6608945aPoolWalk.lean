import Derived.Test.Qxb6608945aWalks
namespace Go.Proofs.Qxb6608945a
open Go.ChangeShapes Go.WideShapes Go.ChangeAt Go.RowKit
set_option linter.unusedVariables false

/-- The law at one size, its two answers known. -/
def Ranges (s : Int) (b1 b2 : Bool) : Prop :=
  (s < 2048 ∧ b1 = false ∧ b2 = false) ∨ (2048 ≤ s ∧ s < 4096 ∧ b1 = false ∧ b2 = true) ∨ (4096 ≤ s ∧ s ≤ 16777216 ∧ b1 = true ∧ b2 = true) ∨ (16777216 < s ∧ s ≤ 33554432 ∧ b1 = true ∧ b2 = false) ∨ (33554432 < s ∧ b1 = false ∧ b2 = false)

set_option maxHeartbeats 1000000 in
theorem doubling_core (s : Int) (L : Nat) (b1 b2 : Bool) (w : World) (i0 : 1 ≤ s) (i1 : s < 1073741824) (hL : L ≤ 30) (hR : Ranges s b1 b2)
    (H11 : Hid (Calls Try.prog 11 #[.int .i64 s] w fun e w' => e = .returned (.int .i64 (L : Int)) ∧ w = w'))
    (H9a : Hid (Calls Try.prog 9 #[.int .i64 s] w fun e w' => e = .returned (.tuple #[.int .i64 ((L : Int) - 12), .bool b1]) ∧ w = w'))
    (H9b : Hid (Calls Try.prog 9 #[.int .i64 (2 * s)] w fun e w' => e = .returned (.tuple #[.int .i64 ((L : Int) - 11), .bool b2]) ∧ w = w')) :
    Calls Try.prog 4 #[.int .i64 s] w fun e w' => e = .returned (.bool true) ∧ Grown w w' := by
  rcases hR with ⟨r0, rfl, rfl⟩ | ⟨r0, r1, rfl, rfl⟩ | ⟨r0, r1, rfl, rfl⟩ | ⟨r0, r1, rfl, rfl⟩ | ⟨r0, rfl, rfl⟩
  · have d24 : decide (s ≤ 16777216) = true := decide_eq_true (by omega)
    have d25 : decide (s ≤ 33554432) = true := decide_eq_true (by omega)
    go_enter Try.func4, Try.ntmps4
    go_wp2_with fail
    refine (unhide H11).mono ?_
    rintro e w' ⟨rfl, rfl⟩
    go_wp2_with fail
    refine (unhide H9a).mono ?_
    rintro e w' ⟨rfl, rfl⟩
    go_wp2_with fail
    refine (unhide H9b).mono ?_
    rintro e w' ⟨rfl, rfl⟩
    go_wp2
    go_ret
    exact ⟨rfl, Grown.refl _⟩
  · have d24 : decide (s ≤ 16777216) = true := decide_eq_true (by omega)
    have d25 : decide (s ≤ 33554432) = true := decide_eq_true (by omega)
    go_enter Try.func4, Try.ntmps4
    go_wp2_with fail
    refine (unhide H11).mono ?_
    rintro e w' ⟨rfl, rfl⟩
    go_wp2_with fail
    refine (unhide H9a).mono ?_
    rintro e w' ⟨rfl, rfl⟩
    go_wp2_with fail
    refine (unhide H9b).mono ?_
    rintro e w' ⟨rfl, rfl⟩
    go_wp2
    go_ret
    exact ⟨rfl, Grown.refl _⟩
  · have d24 : decide (s ≤ 16777216) = true := decide_eq_true (by omega)
    have d25 : decide (s ≤ 33554432) = true := decide_eq_true (by omega)
    go_enter Try.func4, Try.ntmps4
    go_wp2_with fail
    refine (unhide H11).mono ?_
    rintro e w' ⟨rfl, rfl⟩
    go_wp2_with fail
    refine (unhide H9a).mono ?_
    rintro e w' ⟨rfl, rfl⟩
    go_wp2_with fail
    refine (unhide H9b).mono ?_
    rintro e w' ⟨rfl, rfl⟩
    go_wp2
    go_ret
    exact ⟨rfl, Grown.refl _⟩
  · have d24 : decide (s ≤ 16777216) = false := decide_eq_false (by omega)
    have d25 : decide (s ≤ 33554432) = true := decide_eq_true (by omega)
    go_enter Try.func4, Try.ntmps4
    go_wp2_with fail
    refine (unhide H11).mono ?_
    rintro e w' ⟨rfl, rfl⟩
    go_wp2_with fail
    refine (unhide H9a).mono ?_
    rintro e w' ⟨rfl, rfl⟩
    go_wp2_with fail
    refine (unhide H9b).mono ?_
    rintro e w' ⟨rfl, rfl⟩
    go_wp2
    go_ret
    exact ⟨rfl, Grown.refl _⟩
  · have d24 : decide (s ≤ 16777216) = false := decide_eq_false (by omega)
    have d25 : decide (s ≤ 33554432) = false := decide_eq_false (by omega)
    go_enter Try.func4, Try.ntmps4
    go_wp2_with fail
    refine (unhide H11).mono ?_
    rintro e w' ⟨rfl, rfl⟩
    go_wp2_with fail
    refine (unhide H9a).mono ?_
    rintro e w' ⟨rfl, rfl⟩
    go_wp2_with fail
    refine (unhide H9b).mono ?_
    rintro e w' ⟨rfl, rfl⟩
    go_wp2
    go_ret
    exact ⟨rfl, Grown.refl _⟩

theorem ranges (s : Int) : ∃ b1 b2, Ranges s b1 b2 := by
  unfold Ranges
  rcases (by omega : s < 2048 ∨ (2048 ≤ s ∧ s < 4096) ∨ (4096 ≤ s ∧ s ≤ 16777216) ∨ (16777216 < s ∧ s ≤ 33554432) ∨ 33554432 < s) with h | ⟨h, k⟩ | ⟨h, k⟩ | ⟨h, k⟩ | h
  · exact ⟨false, false, .inl ⟨h, rfl, rfl⟩⟩
  · exact ⟨false, true, .inr (.inl ⟨h, k, rfl, rfl⟩)⟩
  · exact ⟨true, true, .inr (.inr (.inl ⟨h, k, rfl, rfl⟩))⟩
  · exact ⟨true, false, .inr (.inr (.inr (.inl ⟨h, k, rfl, rfl⟩)))⟩
  · exact ⟨false, false, .inr (.inr (.inr (.inr ⟨h, rfl, rfl⟩)))⟩

set_option maxHeartbeats 400000 in
theorem doubling (s : Int) (w : World) (hlo : -9223372036854775808 ≤ s) (hhi : s ≤ 9223372036854775807) :
    Calls Try.prog 4 #[.int .i64 s] w fun e w' => e = .returned (.bool true) ∧ Grown w w' := by
  by_cases hs : 1 ≤ s ∧ s < 1073741824
  · obtain ⟨i0, i1⟩ := hs
    obtain ⟨n, rfl⟩ := Int.eq_ofNat_of_zero_le (show 0 ≤ s by omega)
    have hsh : Sh n (lg (n - 1)) := Sh.of_lg (by omega) (by omega)
    have e2 : lg (2 * n - 1) = lg (n - 1) + 1 := by
      rw [show 2 * n - 1 = 2 * (n - 1) + 1 by omega]; exact lg_double _ (by omega)
    have b25 : n ≤ 33554432 → lg (n - 1) ≤ 25 := fun h => lg_le _ _ (by omega) (by omega)
    have b25' : 33554432 < n → 25 < lg (n - 1) := fun h => lg_big h (by omega)
    have b24 : n ≤ 16777216 → lg (2 * n - 1) ≤ 25 := fun h => lg_le _ _ (by omega) (by omega)
    have b24' : 16777216 < n → 25 < lg (2 * n - 1) := fun h => lg_big (by omega) (by omega)
    have hL := hsh.hi
    obtain ⟨b1, b2, hR⟩ := ranges (n : Int)
    refine doubling_core n (lg (n - 1)) b1 b2 w i0 i1 hL hR (hide ?_) (hide ?_) (hide ?_)
    · exact shift11 n _ w i0 i1 (by rw [Int.toNat_natCast]; exact hsh)
    · refine zzpool9 _ _ _ w (pool17 n _ b1 w (by omega) (by omega) rfl (by omega) ?_)
      rcases hR with ⟨r0, rfl, rfl⟩ | ⟨r0, r1, rfl, rfl⟩ | ⟨r0, r1, rfl, rfl⟩ | ⟨r0, r1, rfl, rfl⟩ | ⟨r0, rfl, rfl⟩
      · exact .inr ⟨rfl, .inl (by omega)⟩
      · exact .inr ⟨rfl, .inl (by omega)⟩
      · exact .inl ⟨rfl, by omega, b25 (by omega)⟩
      · exact .inl ⟨rfl, by omega, b25 (by omega)⟩
      · exact .inr ⟨rfl, .inr (b25' (by omega))⟩
    · have := zzpool9 ((2 * n : Nat) : Int) _ b2 w (pool17 (2 * n) _ b2 w (by omega) (by omega) rfl (by omega) (by
        rcases hR with ⟨r0, rfl, rfl⟩ | ⟨r0, r1, rfl, rfl⟩ | ⟨r0, r1, rfl, rfl⟩ | ⟨r0, r1, rfl, rfl⟩ | ⟨r0, rfl, rfl⟩
        · exact .inr ⟨rfl, .inl (by omega)⟩
        · exact .inl ⟨rfl, by omega, b24 (by omega)⟩
        · exact .inl ⟨rfl, by omega, b24 (by omega)⟩
        · exact .inr ⟨rfl, .inr (b24' (by omega))⟩
        · exact .inr ⟨rfl, .inr (b24' (by omega))⟩))
      rw [e2, show (((2 * n : Nat) : Int)) = 2 * (n : Int) by omega, show (((lg (n - 1) + 1 : Nat) : Int) - 12) = (lg (n - 1) : Int) - 11 by omega] at this
      exact this
  · by_cases h1 : s < 1
    · go_enter Try.func4, Try.ntmps4
      go_wp2
      go_ret
      exact ⟨rfl, Grown.refl _⟩
    · have h2 : 1073741824 ≤ s := by omega
      go_enter Try.func4, Try.ntmps4
      go_wp2
      go_ret
      exact ⟨rfl, Grown.refl _⟩
end Go.Proofs.Qxb6608945a
