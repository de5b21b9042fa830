import Derived.Test.Qxb6608945aRows
import Derived.Test.Qxb6608945aPlain
import Derived.WalkKit
import Derived.ProofKit
import Derived.OpenShut
import Derived.Below
import Derived.Deep.QuietTactic
import Derived.BigQuiet
import Derived.Lib.Walk
import Derived.Lib.BitFns
namespace Go.Proofs.Qxb6608945a
open Go.ChangeShapes Go.WideShapes Go.ChangeAt Go.RowKit
set_option linter.unusedVariables false

theorem hide {p : Prop} (h : p) : Hid p := h
theorem unhide {p : Prop} (h : Hid p) : p := h

set_option maxHeartbeats 1000000 in
theorem len64_lib (x : Int) (w : World) (h0 : 0 ≤ x) (h1 : x ≤ 18446744073709551615) :
    Calls Try.prog 26 #[.int .u64 x] w fun e w' => e = .returned (.int .i64 (Lib.bitLen x.toNat)) ∧ w = w' := by
  rcases (by omega : 72057594037927936 ≤ x ∨ (281474976710656 ≤ x ∧ x < 72057594037927936) ∨ (1099511627776 ≤ x ∧ x < 281474976710656) ∨ (4294967296 ≤ x ∧ x < 1099511627776) ∨ (16777216 ≤ x ∧ x < 4294967296) ∨ (65536 ≤ x ∧ x < 16777216) ∨ (256 ≤ x ∧ x < 65536) ∨ x < 256) with c | c | c | c | c | c | c | c
  · have tb := fun wx => Lib.run_index_len8tab (P := Try.prog) wx 9 .u8 (x / 4294967296 / 65536 / 256) Try.underlying9 (by omega) (by omega)
    have l := Lib.bitLen_le8' (x / 4294967296 / 65536 / 256) (by omega) (by omega)
    rw [Lib.len8_of (x / 4294967296 / 65536 / 256) (by omega) (by omega)] at tb
    have e : (x / 4294967296 / 65536 / 256).toNat = x.toNat / 72057594037927936 := by omega
    have s := Lib.bitLen_shift56 x.toNat (by omega) (by omega)
    rw [e] at tb l
    have E := hide e
    have S := hide s
    clear e s
    generalize Lib.bitLen (x.toNat / 72057594037927936) = b at tb l S
    go_enter Try.func26, Try.ntmps26
    go_wp2
    go_ret
    refine ⟨congrArg Ending.returned (congrArg (Value.int IntKind.i64) ?_), rfl⟩
    have := unhide S; omega
  · have tb := fun wx => Lib.run_index_len8tab (P := Try.prog) wx 9 .u8 (x / 4294967296 / 65536) Try.underlying9 (by omega) (by omega)
    have l := Lib.bitLen_le8' (x / 4294967296 / 65536) (by omega) (by omega)
    rw [Lib.len8_of (x / 4294967296 / 65536) (by omega) (by omega)] at tb
    have e : (x / 4294967296 / 65536).toNat = x.toNat / 281474976710656 := by omega
    have s := Lib.bitLen_shift48 x.toNat (by omega) (by omega)
    rw [e] at tb l
    have E := hide e
    have S := hide s
    clear e s
    generalize Lib.bitLen (x.toNat / 281474976710656) = b at tb l S
    go_enter Try.func26, Try.ntmps26
    go_wp2
    go_ret
    refine ⟨congrArg Ending.returned (congrArg (Value.int IntKind.i64) ?_), rfl⟩
    have := unhide S; omega
  · have tb := fun wx => Lib.run_index_len8tab (P := Try.prog) wx 9 .u8 (x / 4294967296 / 256) Try.underlying9 (by omega) (by omega)
    have l := Lib.bitLen_le8' (x / 4294967296 / 256) (by omega) (by omega)
    rw [Lib.len8_of (x / 4294967296 / 256) (by omega) (by omega)] at tb
    have e : (x / 4294967296 / 256).toNat = x.toNat / 1099511627776 := by omega
    have s := Lib.bitLen_shift40 x.toNat (by omega) (by omega)
    rw [e] at tb l
    have E := hide e
    have S := hide s
    clear e s
    generalize Lib.bitLen (x.toNat / 1099511627776) = b at tb l S
    go_enter Try.func26, Try.ntmps26
    go_wp2
    go_ret
    refine ⟨congrArg Ending.returned (congrArg (Value.int IntKind.i64) ?_), rfl⟩
    have := unhide S; omega
  · have tb := fun wx => Lib.run_index_len8tab (P := Try.prog) wx 9 .u8 (x / 4294967296) Try.underlying9 (by omega) (by omega)
    have l := Lib.bitLen_le8' (x / 4294967296) (by omega) (by omega)
    rw [Lib.len8_of (x / 4294967296) (by omega) (by omega)] at tb
    have e : (x / 4294967296).toNat = x.toNat / 4294967296 := by omega
    have s := Lib.bitLen_shift32 x.toNat (by omega) (by omega)
    rw [e] at tb l
    have E := hide e
    have S := hide s
    clear e s
    generalize Lib.bitLen (x.toNat / 4294967296) = b at tb l S
    go_enter Try.func26, Try.ntmps26
    go_wp2
    go_ret
    refine ⟨congrArg Ending.returned (congrArg (Value.int IntKind.i64) ?_), rfl⟩
    have := unhide S; omega
  · have tb := fun wx => Lib.run_index_len8tab (P := Try.prog) wx 9 .u8 (x / 65536 / 256) Try.underlying9 (by omega) (by omega)
    have l := Lib.bitLen_le8' (x / 65536 / 256) (by omega) (by omega)
    rw [Lib.len8_of (x / 65536 / 256) (by omega) (by omega)] at tb
    have e : (x / 65536 / 256).toNat = x.toNat / 16777216 := by omega
    have s := Lib.bitLen_shift24 x.toNat (by omega) (by omega)
    rw [e] at tb l
    have E := hide e
    have S := hide s
    clear e s
    generalize Lib.bitLen (x.toNat / 16777216) = b at tb l S
    go_enter Try.func26, Try.ntmps26
    go_wp2
    go_ret
    refine ⟨congrArg Ending.returned (congrArg (Value.int IntKind.i64) ?_), rfl⟩
    have := unhide S; omega
  · have tb := fun wx => Lib.run_index_len8tab (P := Try.prog) wx 9 .u8 (x / 65536) Try.underlying9 (by omega) (by omega)
    have l := Lib.bitLen_le8' (x / 65536) (by omega) (by omega)
    rw [Lib.len8_of (x / 65536) (by omega) (by omega)] at tb
    have e : (x / 65536).toNat = x.toNat / 65536 := by omega
    have s := Lib.bitLen_shift16 x.toNat (by omega) (by omega)
    rw [e] at tb l
    have E := hide e
    have S := hide s
    clear e s
    generalize Lib.bitLen (x.toNat / 65536) = b at tb l S
    go_enter Try.func26, Try.ntmps26
    go_wp2
    go_ret
    refine ⟨congrArg Ending.returned (congrArg (Value.int IntKind.i64) ?_), rfl⟩
    have := unhide S; omega
  · have tb := fun wx => Lib.run_index_len8tab (P := Try.prog) wx 9 .u8 (x / 256) Try.underlying9 (by omega) (by omega)
    have l := Lib.bitLen_le8' (x / 256) (by omega) (by omega)
    rw [Lib.len8_of (x / 256) (by omega) (by omega)] at tb
    have e : (x / 256).toNat = x.toNat / 256 := by omega
    have s := Lib.bitLen_shift8 x.toNat (by omega) (by omega)
    rw [e] at tb l
    have E := hide e
    have S := hide s
    clear e s
    generalize Lib.bitLen (x.toNat / 256) = b at tb l S
    go_enter Try.func26, Try.ntmps26
    go_wp2
    go_ret
    refine ⟨congrArg Ending.returned (congrArg (Value.int IntKind.i64) ?_), rfl⟩
    have := unhide S; omega
  · have tb := fun wx => Lib.run_index_len8tab (P := Try.prog) wx 9 .u8 x Try.underlying9 (by omega) (by omega)
    have l := Lib.bitLen_le8' x (by omega) (by omega)
    rw [Lib.len8_of x (by omega) (by omega)] at tb
    generalize Lib.bitLen x.toNat = b at tb l
    go_enter Try.func26, Try.ntmps26
    go_wp2
    go_ret
    refine ⟨congrArg Ending.returned (congrArg (Value.int IntKind.i64) ?_), rfl⟩
    omega

set_option maxHeartbeats 400000 in
theorem len22 (x : Int) (w : World) (h0 : 0 ≤ x) (h1 : x ≤ 18446744073709551615) :
    Calls Try.prog 22 #[.int .u64 x] w fun e w' => e = .returned (.int .i64 (lg x.toNat)) ∧ w = w' := by
  have H := hide (len64_lib x w h0 h1)
  go_enter Try.func22, Try.ntmps22
  go_wp2_with (go_at_call 26; refine (unhide H).mono ?_; rintro e w' ⟨rfl, rfl⟩)
  go_ret
  exact ⟨rfl, rfl⟩

set_option maxHeartbeats 400000 in
/-- From 1 on: the bits of size-1, and whether a pool holds it. -/
theorem pool17 (s : Nat) (k : Nat) (b : Bool) (w : World) (h0 : 1 ≤ s) (h1 : s ≤ 9223372036854775807) (hk : lg (s - 1) = k) (hk64 : k ≤ 64) (hb : (b = true ∧ 4096 ≤ s ∧ k ≤ 25) ∨ (b = false ∧ (s < 4096 ∨ 25 < k))) :
    Calls Try.prog 17 #[.int .i64 s] w fun e w' => e = .returned (.tuple #[.int .i64 ((k : Int) - 12), .bool b]) ∧ w = w' := by
  have H0 := len22 ((s : Int) - 1) w (by omega) (by omega)
  rw [show ((s : Int) - 1).toNat = s - 1 by omega, hk] at H0
  have H := hide H0
  clear hk H0
  rcases hb with ⟨rfl, h2, h3⟩ | ⟨rfl, hb⟩
  · have hd : decide ((k : Int) ≤ 25) = true := decide_eq_true (by omega)
    go_enter Try.func17, Try.ntmps17
    go_wp2_with (go_at_call 22; refine (unhide H).mono ?_; rintro e w' ⟨rfl, rfl⟩)
    go_ret2
    exact ⟨rfl, rfl⟩
  · by_cases h2 : s < 4096
    · go_enter Try.func17, Try.ntmps17
      go_wp2_with (go_at_call 22; refine (unhide H).mono ?_; rintro e w' ⟨rfl, rfl⟩)
      go_ret2
      exact ⟨rfl, rfl⟩
    · have hd : decide ((k : Int) ≤ 25) = false := decide_eq_false (by omega)
      clear hb
      go_enter Try.func17, Try.ntmps17
      go_wp2_with (go_at_call 22; refine (unhide H).mono ?_; rintro e w' ⟨rfl, rfl⟩)
      go_ret2
      exact ⟨rfl, rfl⟩

theorem u64b (y : Int) : 0 ≤ IntKind.u64.wrap y ∧ IntKind.u64.wrap y ≤ 18446744073709551615 := by
  rw [IntKind.wrap_u64]; omega

set_option maxHeartbeats 400000 in
/-- At nought and below no pool holds it. -/
theorem pool17_neg (s : Int) (w : World) (h0 : -9223372036854775808 ≤ s) (h1 : s ≤ 0) :
    Calls Try.prog 17 #[.int .i64 s] w fun e w' => (∃ i, e = .returned (.tuple #[.int .i64 i, .bool false])) ∧ w = w' := by
  have H := hide (fun y => len22 (IntKind.u64.wrap y) w (u64b y).1 (u64b y).2)
  by_cases hm : s = -9223372036854775808
  · subst hm
    go_enter Try.func17, Try.ntmps17
    go_wp2_with (go_at_call 22; refine (unhide H _).mono ?_; rintro e w' ⟨rfl, rfl⟩)
    go_ret2
    exact ⟨⟨_, rfl⟩, rfl⟩
  · have hm' : -9223372036854775807 ≤ s := by omega
    clear hm
    go_enter Try.func17, Try.ntmps17
    go_wp2_with (go_at_call 22; refine (unhide H _).mono ?_; rintro e w' ⟨rfl, rfl⟩)
    go_ret2
    exact ⟨⟨_, rfl⟩, rfl⟩

theorem pow_case {L : Nat} (h0 : 12 ≤ L) (h1 : L ≤ 25) : L = 12 ∨ L = 13 ∨ L = 14 ∨ L = 15 ∨ L = 16 ∨ L = 17 ∨ L = 18 ∨ L = 19 ∨ L = 20 ∨ L = 21 ∨ L = 22 ∨ L = 23 ∨ L = 24 ∨ L = 25 := by omega

set_option maxHeartbeats 1000000 in
theorem class18 (L : Nat) (w : World) (h0 : 12 ≤ L) (h1 : L ≤ 25) :
    Calls Try.prog 18 #[.int .i64 ((L : Int) - 12)] w fun e w' => e = .returned (.int .i64 ((2 ^ L : Nat) : Int)) ∧ w = w' := by
  rcases pow_case h0 h1 with rfl | rfl | rfl | rfl | rfl | rfl | rfl | rfl | rfl | rfl | rfl | rfl | rfl | rfl
  · have e : ((12 : Nat) : Int) - 12 = 0 := by omega
    have p : ((2 ^ 12 : Nat) : Int) = 4096 := by decide
    rw [e, p]
    clear e p
    go_enter Try.func18, Try.ntmps18
    go_wp2
    go_ret
    exact ⟨rfl, rfl⟩
  · have e : ((13 : Nat) : Int) - 12 = 1 := by omega
    have p : ((2 ^ 13 : Nat) : Int) = 8192 := by decide
    rw [e, p]
    clear e p
    go_enter Try.func18, Try.ntmps18
    go_wp2
    go_ret
    exact ⟨rfl, rfl⟩
  · have e : ((14 : Nat) : Int) - 12 = 2 := by omega
    have p : ((2 ^ 14 : Nat) : Int) = 16384 := by decide
    rw [e, p]
    clear e p
    go_enter Try.func18, Try.ntmps18
    go_wp2
    go_ret
    exact ⟨rfl, rfl⟩
  · have e : ((15 : Nat) : Int) - 12 = 3 := by omega
    have p : ((2 ^ 15 : Nat) : Int) = 32768 := by decide
    rw [e, p]
    clear e p
    go_enter Try.func18, Try.ntmps18
    go_wp2
    go_ret
    exact ⟨rfl, rfl⟩
  · have e : ((16 : Nat) : Int) - 12 = 4 := by omega
    have p : ((2 ^ 16 : Nat) : Int) = 65536 := by decide
    rw [e, p]
    clear e p
    go_enter Try.func18, Try.ntmps18
    go_wp2
    go_ret
    exact ⟨rfl, rfl⟩
  · have e : ((17 : Nat) : Int) - 12 = 5 := by omega
    have p : ((2 ^ 17 : Nat) : Int) = 131072 := by decide
    rw [e, p]
    clear e p
    go_enter Try.func18, Try.ntmps18
    go_wp2
    go_ret
    exact ⟨rfl, rfl⟩
  · have e : ((18 : Nat) : Int) - 12 = 6 := by omega
    have p : ((2 ^ 18 : Nat) : Int) = 262144 := by decide
    rw [e, p]
    clear e p
    go_enter Try.func18, Try.ntmps18
    go_wp2
    go_ret
    exact ⟨rfl, rfl⟩
  · have e : ((19 : Nat) : Int) - 12 = 7 := by omega
    have p : ((2 ^ 19 : Nat) : Int) = 524288 := by decide
    rw [e, p]
    clear e p
    go_enter Try.func18, Try.ntmps18
    go_wp2
    go_ret
    exact ⟨rfl, rfl⟩
  · have e : ((20 : Nat) : Int) - 12 = 8 := by omega
    have p : ((2 ^ 20 : Nat) : Int) = 1048576 := by decide
    rw [e, p]
    clear e p
    go_enter Try.func18, Try.ntmps18
    go_wp2
    go_ret
    exact ⟨rfl, rfl⟩
  · have e : ((21 : Nat) : Int) - 12 = 9 := by omega
    have p : ((2 ^ 21 : Nat) : Int) = 2097152 := by decide
    rw [e, p]
    clear e p
    go_enter Try.func18, Try.ntmps18
    go_wp2
    go_ret
    exact ⟨rfl, rfl⟩
  · have e : ((22 : Nat) : Int) - 12 = 10 := by omega
    have p : ((2 ^ 22 : Nat) : Int) = 4194304 := by decide
    rw [e, p]
    clear e p
    go_enter Try.func18, Try.ntmps18
    go_wp2
    go_ret
    exact ⟨rfl, rfl⟩
  · have e : ((23 : Nat) : Int) - 12 = 11 := by omega
    have p : ((2 ^ 23 : Nat) : Int) = 8388608 := by decide
    rw [e, p]
    clear e p
    go_enter Try.func18, Try.ntmps18
    go_wp2
    go_ret
    exact ⟨rfl, rfl⟩
  · have e : ((24 : Nat) : Int) - 12 = 12 := by omega
    have p : ((2 ^ 24 : Nat) : Int) = 16777216 := by decide
    rw [e, p]
    clear e p
    go_enter Try.func18, Try.ntmps18
    go_wp2
    go_ret
    exact ⟨rfl, rfl⟩
  · have e : ((25 : Nat) : Int) - 12 = 13 := by omega
    have p : ((2 ^ 25 : Nat) : Int) = 33554432 := by decide
    rw [e, p]
    clear e p
    go_enter Try.func18, Try.ntmps18
    go_wp2
    go_ret
    exact ⟨rfl, rfl⟩

set_option maxHeartbeats 400000 in
/-- capacity in the pooled range: the least power of two that holds size. -/
theorem cap19_in (s L : Nat) (w : World) (h0 : 4096 ≤ s) (h1 : s ≤ 33554432) (h : P2 s L) :
    Calls Try.prog 19 #[.int .i64 s] w fun e w' => e = .returned (.int .i64 ((2 ^ L : Nat) : Int)) ∧ w = w' := by
  have hlo := h.lo
  have hhi := h.hi
  have H17 := hide (pool17 s L true w (by omega) (by omega) (h.lg h0 h1) (by omega) (.inl ⟨rfl, h0, hhi⟩))
  have H18 := hide (class18 L w hlo hhi)
  clear h
  generalize 2 ^ L = c at H18 ⊢
  go_enter Try.func19, Try.ntmps19
  go_wp2_with (first | (go_at_call 17; refine (unhide H17).mono ?_; rintro e w' ⟨rfl, rfl⟩) | (go_at_call 18; refine (unhide H18).mono ?_; rintro e w' ⟨rfl, rfl⟩))
  go_ret
  exact ⟨rfl, rfl⟩

theorem lg_big {s : Nat} (h : 33554432 < s) (h1 : s ≤ 9223372036854775807) : 25 < lg (s - 1) := by
  obtain ⟨a, _⟩ := lg_bounds (s - 1) (by omega)
  rcases Nat.lt_or_ge 25 (lg (s - 1)) with hl | hl
  · exact hl
  · have := pow25 hl; omega

set_option maxHeartbeats 400000 in
/-- capacity outside it: size itself. -/
theorem cap19_out (s : Int) (w : World) (hlo : -9223372036854775808 ≤ s) (hhi : s ≤ 9223372036854775807) (h : s < 4096 ∨ 33554432 < s) :
    Calls Try.prog 19 #[.int .i64 s] w fun e w' => e = .returned (.int .i64 s) ∧ w = w' := by
  have H17 : Calls Try.prog 17 #[.int .i64 s] w fun e w' => (∃ i, e = .returned (.tuple #[.int .i64 i, .bool false])) ∧ w = w' := by
    by_cases hs : s ≤ 0
    · exact pool17_neg s w hlo hs
    · obtain ⟨n, rfl⟩ := Int.eq_ofNat_of_zero_le (show 0 ≤ s by omega)
      have l64 : lg (n - 1) ≤ 64 := lg_le _ _ (Nat.le_refl _) (by omega)
      refine (pool17 n (lg (n - 1)) false w (by omega) (by omega) rfl l64 (.inr ⟨rfl, ?_⟩)).mono fun e w' ⟨he, hw⟩ => ⟨⟨_, he⟩, hw⟩
      by_cases hn : n < 4096
      · exact .inl hn
      · exact .inr (lg_big (by omega) (by omega))
  have H17 := hide H17
  go_enter Try.func19, Try.ntmps19
  go_wp2_with (go_at_call 17; refine (unhide H17).mono ?_; rintro e w' ⟨⟨i, rfl⟩, rfl⟩)
  go_ret
  exact ⟨rfl, rfl⟩

set_option maxHeartbeats 400000 in
/-- ZZcapacity answers as capacity does. -/
theorem zzcap13 (s c : Int) (w : World) (H : Calls Try.prog 19 #[.int .i64 s] w fun e w' => e = .returned (.int .i64 c) ∧ w = w') :
    Calls Try.prog 13 #[.int .i64 s] w fun e w' => e = .returned (.int .i64 c) ∧ w = w' := by
  have H19 := hide H
  clear H
  go_enter Try.func13, Try.ntmps13
  go_wp2_with (go_at_call 19; refine (unhide H19).mono ?_; rintro e w' ⟨rfl, rfl⟩)
  go_ret
  exact ⟨rfl, rfl⟩

set_option maxHeartbeats 400000 in
theorem want14_out (s : Int) (w : World) (hlo : -9223372036854775808 ≤ s) (hhi : s ≤ 9223372036854775807) (h : s < 4096 ∨ 33554432 < s) :
    Calls Try.prog 14 #[.int .i64 s] w fun e w' => e = .returned (.int .i64 s) ∧ w = w' := by
  by_cases h1 : s < 4096
  · go_enter Try.func14, Try.ntmps14
    go_wp2
    go_ret
    exact ⟨rfl, rfl⟩
  · have h2 : 33554432 < s := by omega
    clear h
    go_enter Try.func14, Try.ntmps14
    go_wp2
    go_ret
    exact ⟨rfl, rfl⟩

/-- The powers that the search comes by: p is a power of two from 4096 on, no greater than 2 ^ L. -/
def OnWay (L p : Nat) : Prop := ∃ M, 12 ≤ M ∧ M ≤ L ∧ p = 2 ^ M
theorem OnWay.start {s L : Nat} (h : P2 s L) : OnWay L 4096 := ⟨12, Nat.le_refl _, h.lo, by decide⟩
theorem OnWay.bound {s L p : Nat} (h : P2 s L) (k : OnWay L p) : 4096 ≤ p ∧ p ≤ 33554432 := by
  obtain ⟨M, h1, h2, rfl⟩ := k
  exact ⟨pow12 h1, pow25 (Nat.le_trans h2 h.hi)⟩
theorem OnWay.nxt {s L p : Nat} (h : P2 s L) (k : OnWay L p) (hlt : p < s) : OnWay L (p * 2) := by
  obtain ⟨M, h1, h2, rfl⟩ := k
  have := h.le
  have : M ≠ L := fun e => by subst e; omega
  exact ⟨M + 1, by omega, by omega, by rw [Nat.pow_succ]⟩
theorem OnWay.fin {s L p : Nat} (h : P2 s L) (k : OnWay L p) (hge : ¬ p < s) : p = 2 ^ L := by
  obtain ⟨M, h1, h2, rfl⟩ := k
  rcases Nat.lt_or_ge M L with hl | hl
  · have hp : 2 ^ M ≤ 2 ^ (L - 1) := Nat.pow_le_pow_right (by decide) (by omega)
    rcases h.gt with g | g <;> omega
  · rw [Nat.le_antisymm h2 hl]

set_option maxHeartbeats 400000 in
theorem want14_core (s : Int) (L c : Nat) (w : World) (i0 : 4096 ≤ s) (i1 : s ≤ 33554432) (HP : Hid (P2 s.toNat L)) (HC : Hid (c = 2 ^ L)) :
    Calls Try.prog 14 #[.int .i64 s] w fun e w' => e = .returned (.int .i64 (c : Int)) ∧ w = w' := by
  go_enter Try.func14, Try.ntmps14
  go_wp2
  go_loop [3] (fun t => ∃ p : Nat, OnWay L p ∧ t = .int .i64 p) (fun t => 100000000 - (intOf t).toNat)
  case atStart => exact ⟨4096, OnWay.start (unhide HP), rfl⟩
  case round =>
    obtain ⟨p, hp, rfl⟩ := hrel
    obtain ⟨hp0, hp1⟩ := OnWay.bound (unhide HP) hp
    have HW := hide hp
    have j0 : (4096 : Int) ≤ (p : Int) := by omega
    have j1 : (p : Int) ≤ 33554432 := by omega
    clear hp hp0 hp1
    by_cases hlt : (p : Int) < s
    · go_wp2
      go_round
      case rel => exact ⟨p * 2, OnWay.nxt (unhide HP) (unhide HW) (by omega), by go_num⟩
      case measure => simp [intOf]; omega
    · obtain rfl : c = p := (unhide HC).trans (OnWay.fin (unhide HP) (unhide HW) (by omega)).symm
      go_wp2
      go_ret
      exact ⟨rfl, rfl⟩

theorem want14_in (s L : Nat) (w : World) (h0 : 4096 ≤ s) (h1 : s ≤ 33554432) (h : P2 s L) :
    Calls Try.prog 14 #[.int .i64 s] w fun e w' => e = .returned (.int .i64 ((2 ^ L : Nat) : Int)) ∧ w = w' :=
  want14_core s L (2 ^ L) w (by omega) (by omega) (by rw [Int.toNat_natCast]; exact h) rfl

/-- L is the least shift that holds s. -/
structure Sh (s L : Nat) : Prop where
  hi : L ≤ 30
  le : s ≤ 2 ^ L
  gt : L = 0 ∨ 2 ^ (L - 1) < s

theorem Sh.of_lg {s : Nat} (h0 : 1 ≤ s) (h1 : s < 1073741824) : Sh s (lg (s - 1)) := by
  obtain ⟨a, b⟩ := lg_bounds (s - 1) (by omega)
  have l := lg_le (s - 1) 30 (by omega) (by omega)
  refine ⟨l, by omega, ?_⟩
  by_cases e : s - 1 = 0
  · left; rw [e]; exact lg_zero
  · right; have := (b e).2; omega

/-- After k rounds: p is 2 ^ k, and k is no more than L. -/
def At (L k p : Nat) : Prop := k ≤ L ∧ p = 2 ^ k
theorem At.start (L : Nat) : At L 0 1 := ⟨Nat.zero_le _, rfl⟩
theorem At.bound {s L k p : Nat} (h : Sh s L) (a : At L k p) : 1 ≤ p ∧ p ≤ 1073741824 ∧ k ≤ 30 := by
  obtain ⟨h1, rfl⟩ := a
  have := h.hi
  exact ⟨Nat.one_le_two_pow, show 2 ^ k ≤ 2 ^ 30 from Nat.pow_le_pow_right (by decide) (by omega), by omega⟩
theorem At.nxt {s L k p : Nat} (h : Sh s L) (a : At L k p) (hlt : p < s) : At L (k + 1) (p * 2) := by
  obtain ⟨h1, rfl⟩ := a
  have := h.le
  have : k ≠ L := fun e => by subst e; omega
  exact ⟨by omega, by rw [Nat.pow_succ]⟩
theorem At.fin {s L k p : Nat} (h : Sh s L) (a : At L k p) (hge : ¬ p < s) : k = L := by
  obtain ⟨h1, rfl⟩ := a
  rcases Nat.lt_or_ge k L with hl | hl
  · have hp : 2 ^ k ≤ 2 ^ (L - 1) := Nat.pow_le_pow_right (by decide) (by omega)
    rcases h.gt with g | g <;> omega
  · omega

set_option maxHeartbeats 400000 in
theorem shift11 (s : Int) (L : Nat) (w : World) (i0 : 1 ≤ s) (i1 : s < 1073741824) (HP : Hid (Sh s.toNat L)) :
    Calls Try.prog 11 #[.int .i64 s] w fun e w' => e = .returned (.int .i64 (L : Int)) ∧ w = w' := by
  go_enter Try.func11, Try.ntmps11
  go_wp2
  go_loop [3, 4] (fun t u => ∃ k p : Nat, At L k p ∧ t = .int .i64 k ∧ u = .int .u64 p) (fun t u => 3000000000 - (intOf u).toNat)
  case atStart => exact ⟨0, 1, At.start L, rfl, rfl⟩
  case round =>
    obtain ⟨k, p, hp, rfl, rfl⟩ := hrel
    obtain ⟨hp0, hp1, hp2⟩ := At.bound (unhide HP) hp
    have HW := hide hp
    have j0 : (1 : Int) ≤ (p : Int) := by omega
    have j1 : (p : Int) ≤ 1073741824 := by omega
    clear hp hp0 hp1
    by_cases hlt : (p : Int) < s
    · go_wp2
      go_round
      case rel => exact ⟨k + 1, p * 2, At.nxt (unhide HP) (unhide HW) (by omega), by go_num, by go_num⟩
      case measure => simp [intOf]; omega
    · obtain rfl : L = k := (At.fin (unhide HP) (unhide HW) (by omega)).symm
      go_wp2
      go_ret
      exact ⟨rfl, rfl⟩

set_option maxHeartbeats 400000 in
theorem zzpool9 (s : Int) (i : Int) (b : Bool) (w : World) (H : Calls Try.prog 17 #[.int .i64 s] w fun e w' => e = .returned (.tuple #[.int .i64 i, .bool b]) ∧ w = w') :
    Calls Try.prog 9 #[.int .i64 s] w fun e w' => e = .returned (.tuple #[.int .i64 i, .bool b]) ∧ w = w' := by
  have H17 := hide H
  clear H
  go_enter Try.func9, Try.ntmps9
  go_wp2_with (go_at_call 17; refine (unhide H17).mono ?_; rintro e w' ⟨rfl, rfl⟩)
  go_ret2
  exact ⟨rfl, rfl⟩
end Go.Proofs.Qxb6608945a
