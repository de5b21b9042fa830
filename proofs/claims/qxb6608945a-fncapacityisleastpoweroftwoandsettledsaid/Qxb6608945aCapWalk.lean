import Derived.Test.Qxb6608945aWalks
namespace Go.Proofs.Qxb6608945a
open Go.ChangeShapes Go.WideShapes Go.ChangeAt Go.RowKit
set_option linter.unusedVariables false

/-- c is what capacity answers for s. -/
def Cap (s c : Int) : Prop :=
  (4096 ≤ s ∧ s ≤ 33554432 ∧ ∃ L, P2 s.toNat L ∧ c = ((2 ^ L : Nat) : Int)) ∨ ((s < 4096 ∨ 33554432 < s) ∧ c = s)

theorem Cap.ex (s : Int) : ∃ c, Cap s c := by
  by_cases h : 4096 ≤ s ∧ s ≤ 33554432
  · obtain ⟨L, hL⟩ := P2.ex s.toNat (by omega) (by omega)
    exact ⟨_, .inl ⟨h.1, h.2, L, hL, rfl⟩⟩
  · exact ⟨s, .inr ⟨by omega, rfl⟩⟩

theorem Cap.ge {s c : Int} (h : Cap s c) : s ≤ c := by
  rcases h with ⟨a, b, L, hL, rfl⟩ | ⟨_, rfl⟩
  · have := hL.le; omega
  · omega

theorem Cap.le {s c : Int} (h : Cap s c) : c ≤ s ∨ c ≤ 33554432 := by
  rcases h with ⟨a, b, L, hL, rfl⟩ | ⟨_, rfl⟩
  · have := pow25 hL.hi; right; omega
  · left; omega

theorem Cap.self {s c : Int} (h : Cap s c) : Cap c c := by
  rcases h with ⟨a, b, L, hL, rfl⟩ | ⟨h, rfl⟩
  · have h12 := pow12 hL.lo
    have h25 := pow25 hL.hi
    exact .inl ⟨by omega, by omega, L, by rw [Int.toNat_natCast]; exact hL.self, rfl⟩
  · exact .inr ⟨h, rfl⟩

theorem Cap.mono {s t c d : Int} (h : Cap s c) (k : Cap t d) (hst : s ≤ t) : c ≤ d := by
  have hk := k.ge
  rcases h with ⟨a, b, L, hL, rfl⟩ | ⟨h, rfl⟩
  · rcases k with ⟨a', b', M, hM, rfl⟩ | ⟨h', rfl⟩
    · have := hL.mono hM (by omega); omega
    · have := pow25 hL.hi; omega
  · omega

theorem Cap.tight {s c : Int} (h : Cap s c) (h0 : 4096 ≤ s) (h1 : s ≤ 33554432) : c < 2 * s := by
  rcases h with ⟨a, b, L, hL, rfl⟩ | ⟨h, rfl⟩
  · have := hL.tight (by omega); omega
  · omega

theorem cap13 (s c : Int) (w : World) (h : Cap s c) (hlo : -9223372036854775808 ≤ s) (hhi : s ≤ 9223372036854775807) :
    Calls Try.prog 13 #[.int .i64 s] w fun e w' => e = .returned (.int .i64 c) ∧ w = w' := by
  rcases h with ⟨a, b, L, hL, rfl⟩ | ⟨h, rfl⟩
  · obtain ⟨n, rfl⟩ := Int.eq_ofNat_of_zero_le (show 0 ≤ s by omega)
    rw [Int.toNat_natCast] at hL
    exact zzcap13 _ _ w (cap19_in n L w (by omega) (by omega) hL)
  · exact zzcap13 _ _ w (cap19_out _ w hlo hhi h)

theorem want14 (s c : Int) (w : World) (h : Cap s c) (hlo : -9223372036854775808 ≤ s) (hhi : s ≤ 9223372036854775807) :
    Calls Try.prog 14 #[.int .i64 s] w fun e w' => e = .returned (.int .i64 c) ∧ w = w' := by
  rcases h with ⟨a, b, L, hL, rfl⟩ | ⟨h, rfl⟩
  · obtain ⟨n, rfl⟩ := Int.eq_ofNat_of_zero_le (show 0 ≤ s by omega)
    rw [Int.toNat_natCast] at hL
    exact want14_in n L w (by omega) (by omega) hL
  · exact want14_out _ w hlo hhi h

set_option maxHeartbeats 400000 in
theorem settled (s : Int) (w : World) (hlo : -9223372036854775808 ≤ s) (hhi : s ≤ 9223372036854775807) :
    Calls Try.prog 6 #[.int .i64 s] w fun e w' => e = .returned (.bool true) ∧ Grown w w' := by
  obtain ⟨c, hc⟩ := Cap.ex s
  have hge := hc.ge
  have hle := hc.le
  have Ha := hide (cap13 s c w hc hlo hhi)
  have Hb := hide (want14 s c w hc hlo hhi)
  have Hc := hide (cap13 c c w hc.self (by omega) (by omega))
  clear hc hge hle
  go_enter Try.func6, Try.ntmps6
  go_wp2_with fail
  refine (unhide Ha).mono ?_
  rintro e w' ⟨rfl, rfl⟩
  go_wp2_with fail
  refine (unhide Hb).mono ?_
  rintro e w' ⟨rfl, rfl⟩
  go_wp2_with fail
  refine (unhide Hc).mono ?_
  rintro e w' ⟨rfl, rfl⟩
  go_wp2
  go_ret
  exact ⟨rfl, Grown.refl _⟩

set_option maxHeartbeats 1000000 in
theorem tight_core (a b lo hi cl ch : Int) (w : World) (hab : (a ≤ b ∧ lo = a ∧ hi = b) ∨ (b < a ∧ lo = b ∧ hi = a)) (m1 : cl ≤ ch) (m2 : lo ≤ cl) (m3 : hi ≤ ch) (m4 : 4096 ≤ lo → lo ≤ 33554432 → cl < 2 * lo)
    (H1 : Hid (Calls Try.prog 13 #[.int .i64 lo] w fun e w' => e = .returned (.int .i64 cl) ∧ w = w'))
    (H2 : Hid (Calls Try.prog 13 #[.int .i64 hi] w fun e w' => e = .returned (.int .i64 ch) ∧ w = w'))
    (H3 : Hid (Calls Try.prog 14 #[.int .i64 lo] w fun e w' => e = .returned (.int .i64 cl) ∧ w = w'))
    (H4 : Hid (Calls Try.prog 14 #[.int .i64 hi] w fun e w' => e = .returned (.int .i64 ch) ∧ w = w')) :
    Calls Try.prog 7 #[.int .i64 a, .int .i64 b] w fun e w' => e = .returned (.bool true) ∧ Grown w w' := by
  rcases hab with ⟨h, rfl, rfl⟩ | ⟨h, rfl, rfl⟩
  all_goals
    rcases (by omega : lo < 4096 ∨ (4096 ≤ lo ∧ lo ≤ 33554432 ∧ cl < 2 * lo) ∨ (4096 ≤ lo ∧ 33554432 < lo)) with r | ⟨r1, r2, r3⟩ | ⟨r1, r2⟩
    all_goals
      clear m4
      go_enter Try.func7, Try.ntmps7
      go_wp2_with fail
      refine (unhide H1).mono ?_
      rintro e w' ⟨rfl, rfl⟩
      go_wp2_with fail
      refine (unhide H2).mono ?_
      rintro e w' ⟨rfl, rfl⟩
      go_wp2_with fail
      refine (unhide H3).mono ?_
      rintro e w' ⟨rfl, rfl⟩
      go_wp2_with fail
      refine (unhide H4).mono ?_
      rintro e w' ⟨rfl, rfl⟩
      go_wp2
      go_ret
      exact ⟨rfl, Grown.refl _⟩

theorem tight (a b : Int) (w : World) (a0 : -9223372036854775808 ≤ a) (a1 : a ≤ 9223372036854775807) (b0 : -9223372036854775808 ≤ b) (b1 : b ≤ 9223372036854775807) :
    Calls Try.prog 7 #[.int .i64 a, .int .i64 b] w fun e w' => e = .returned (.bool true) ∧ Grown w w' := by
  obtain ⟨lo, hi, hab, hlh, l0, l1, h0, h1⟩ : ∃ lo hi : Int, ((a ≤ b ∧ lo = a ∧ hi = b) ∨ (b < a ∧ lo = b ∧ hi = a)) ∧ lo ≤ hi ∧ -9223372036854775808 ≤ lo ∧ lo ≤ 9223372036854775807 ∧ -9223372036854775808 ≤ hi ∧ hi ≤ 9223372036854775807 := by
    by_cases h : a ≤ b
    · exact ⟨a, b, .inl ⟨h, rfl, rfl⟩, h, a0, a1, b0, b1⟩
    · exact ⟨b, a, .inr ⟨by omega, rfl, rfl⟩, by omega, b0, b1, a0, a1⟩
  obtain ⟨cl, hcl⟩ := Cap.ex lo
  obtain ⟨ch, hch⟩ := Cap.ex hi
  exact tight_core a b lo hi cl ch w hab (hcl.mono hch hlh) hcl.ge hch.ge hcl.tight (cap13 lo cl w hcl l0 l1) (cap13 hi ch w hch h0 h1) (want14 lo cl w hcl l0 l1) (want14 hi ch w hch h0 h1)
end Go.Proofs.Qxb6608945a
