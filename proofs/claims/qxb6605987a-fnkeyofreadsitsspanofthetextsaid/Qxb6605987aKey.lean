import Derived.Test.Qxb6605987aTable
import Derived.Deep.RegionWith
namespace Go.Proofs.Qxb6605987a
open Go.ChangeShapes Go.WideShapes Go.ChangeAt Go.RowKit
set_option linter.unusedVariables false

set_option maxHeartbeats 400000 in
theorem fields28 (w : World) (T Dc C Ch Fs : Nat) (vf vu : Value) (x y : Int) (h : Tab w T Dc C Ch Fs vf vu x y) :
    Calls Try.prog 28 #[.pointer (some ⟨Dc, 0, none⟩), .int .u32 1] w fun e w' => e = .returned (.pointer (some ⟨Ch, 1, none⟩)) ∧ w' = w := by
  obtain ⟨_, _, d8, _, _, c0, _, _, _⟩ := h
  go_enter Try.func28, Try.ntmps28
  go_wp2
  go_ret
  exact ⟨rfl, rfl⟩

set_option maxHeartbeats 400000 in
theorem fields24 (w : World) (T Dc C Ch Fs : Nat) (vf vu : Value) (x y : Int) (h : Tab w T Dc C Ch Fs vf vu x y) :
    Calls Try.prog 24 #[.pointer (some ⟨T, 0, none⟩)] w fun e w' => e = .returned (.slice (some ⟨Fs, 0, none⟩) 1 1) ∧ ∃ q, w' = w.drewN q := by
  have H28 := hide (fun q => fields28 (w.drewN q) T Dc C Ch Fs vf vu x y (h.drewN q))
  obtain ⟨t5, t6, _, _, _, _, h1, _, _⟩ := h
  go_enter Try.func24, Try.ntmps24
  go_wp2
  go_quiet ((go_at_call 28; exact Calls.quiet_of_same (unhide H28 _)))
  go_wp2
  go_ret
  exact ⟨rfl, _, rfl⟩

set_option maxHeartbeats 400000 in
theorem bytes27a (w : World) (Dc : Nat) (fa : Option Addr) (fl fc x y : Nat) (v : Value) (d10 : w.cell? ⟨Dc, 10, none⟩ = some (.slice fa fl fc)) (lD : Dc < w.heap.size) (hx : x < fl) (hxy : x + y ≤ 1048576) (hfl : fl ≤ 262144)
    (hs : ∀ wx : World, (Instr.sliceAt 22 (.slice fa fl fc) (some (.int .i64 (x : Int))) (some (.int .i64 ((x : Int) + (y : Int)))) none).run Try.prog wx = .ok v wx) :
    Calls Try.prog 27 #[.pointer (some ⟨Dc, 0, none⟩), .agg #[.int .u32 x, .int .u32 y]] w fun e w' => e = .returned v ∧ ∃ q, w' = (w.alloc (.cells #[.int .u32 x, .int .u32 y] 46)).drewN q := by
  have w1 : IntKind.u32.wrap ((x : Int) + (y : Int)) = (x : Int) + (y : Int) := by rw [IntKind.wrap_u32]; omega
  have w2 : IntKind.i64.wrap (x : Int) = (x : Int) := by rw [IntKind.wrap_i64]; omega
  have w3 : IntKind.i64.wrap ((x : Int) + (y : Int)) = (x : Int) + (y : Int) := by rw [IntKind.wrap_i64]; omega
  go_enter Try.func27, Try.ntmps27
  go_wp2
  go_quiet (fail)
  go_wp2
  go_ret
  exact ⟨rfl, _, rfl⟩

set_option maxHeartbeats 400000 in
theorem bytes27b (w : World) (Dc : Nat) (fa : Option Addr) (fl fc : Nat) (ua : Option Addr) (ul uc x y : Nat) (v : Value) (d10 : w.cell? ⟨Dc, 10, none⟩ = some (.slice fa fl fc)) (d11 : w.cell? ⟨Dc, 11, none⟩ = some (.slice ua ul uc)) (lD : Dc < w.heap.size) (hx : fl ≤ x) (hxy : x + y ≤ 1048576) (hfl : fl ≤ 262144)
    (hs : ∀ wx : World, (Instr.sliceAt 22 (.slice ua ul uc) (some (.int .i64 ((x : Int) - (fl : Int)))) (some (.int .i64 ((x : Int) + (y : Int) - (fl : Int)))) none).run Try.prog wx = .ok v wx) :
    Calls Try.prog 27 #[.pointer (some ⟨Dc, 0, none⟩), .agg #[.int .u32 x, .int .u32 y]] w fun e w' => e = .returned v ∧ ∃ q, w' = (w.alloc (.cells #[.int .u32 x, .int .u32 y] 46)).drewN q := by
  have w1 : IntKind.u32.wrap ((x : Int) + (y : Int)) = (x : Int) + (y : Int) := by rw [IntKind.wrap_u32]; omega
  have w2 : IntKind.i64.wrap (x : Int) = (x : Int) := by rw [IntKind.wrap_i64]; omega
  have w3 : IntKind.i64.wrap ((x : Int) + (y : Int)) = (x : Int) + (y : Int) := by rw [IntKind.wrap_i64]; omega
  have w4 : IntKind.i64.wrap ((x : Int) - (fl : Int)) = (x : Int) - (fl : Int) := by rw [IntKind.wrap_i64]; omega
  have w5 : IntKind.i64.wrap ((x : Int) + (y : Int) - (fl : Int)) = (x : Int) + (y : Int) - (fl : Int) := by rw [IntKind.wrap_i64]; omega
  go_enter Try.func27, Try.ntmps27
  go_wp2
  go_quiet (fail)
  go_wp2
  go_quiet (fail)
  go_wp2
  go_ret
  exact ⟨rfl, _, World.drewN_drewN _ _ _⟩

set_option maxHeartbeats 400000 in
theorem keyOf23 (w : World) (T Dc C Ch Fs : Nat) (vf vu : Value) (x y : Nat) (v : Value) (h : Tab w T Dc C Ch Fs vf vu x y)
    (H27 : Calls Try.prog 27 #[.pointer (some ⟨Dc, 0, none⟩), .agg #[.int .u32 x, .int .u32 y]] w.drew fun e w' => e = .returned v ∧ Below w.heap.size w w') :
    Calls Try.prog 23 #[.pointer (some ⟨T, 0, none⟩), .pointer (some ⟨Fs, 0, none⟩)] w fun e w' => e = .returned v ∧ Below w.heap.size w w' := by
  obtain ⟨t5, _, _, _, _, _, _, f0, f1⟩ := h
  have H := hide H27
  clear H27
  go_enter Try.func23, Try.ntmps23
  go_wp2
  go_region_with (go_at_call 27; refine (unhide H).mono ?_; rintro e w' ⟨rfl, hb⟩)
  all_goals go_wp2
  all_goals go_ret
  all_goals exact ⟨rfl, by assumption⟩

theorem below_drewN' {w w' : World} (q : Nat) (h : Below w.heap.size (w.drewN q) w') : Below w.heap.size w w' := ⟨h.os, h.tape, h.output, h.size, h.block⟩

set_option maxHeartbeats 400000 in
theorem keyOf12 (w : World) (T Dc C Ch Fs : Nat) (vf vu : Value) (x y : Nat) (v : Value) (h : Tab w T Dc C Ch Fs vf vu x y)
    (H27 : ∀ q, Calls Try.prog 27 #[.pointer (some ⟨Dc, 0, none⟩), .agg #[.int .u32 x, .int .u32 y]] (w.drewN q) fun e w' => e = .returned v ∧ Below w.heap.size w w') :
    Calls Try.prog 12 #[.pointer (some ⟨T, 0, none⟩), .int .i64 0] w fun e w' => e = .returned v ∧ Below w.heap.size w w' := by
  have H24 := hide (fields24 w T Dc C Ch Fs vf vu x y h)
  have H23 := hide (fun q => keyOf23 (w.drewN q) T Dc C Ch Fs vf vu x y v (h.drewN q) ((H27 (q + 1)).mono fun e w' hh => ⟨hh.1, hh.2.os, hh.2.tape, hh.2.output, hh.2.size, hh.2.block⟩))
  clear H27 h
  go_enter Try.func12, Try.ntmps12
  go_wp2_with (first | (go_at_call 24; refine (unhide H24).mono ?_; rintro e w' ⟨rfl, q, rfl⟩) | (go_at_call 23; refine (unhide H23 _).mono ?_; rintro e w' ⟨rfl, hb⟩))
  go_ret
  exact ⟨rfl, below_drewN' q hb⟩

set_option maxHeartbeats 400000 in
theorem keyAt14 (w : World) (a : Option Addr) (l c x y : Nat) (v : Value) (hxy : x + y ≤ 1048576)
    (hs : ∀ wx : World, (Instr.sliceAt 22 (.slice a l c) (some (.int .i64 (x : Int))) (some (.int .i64 ((x : Int) + (y : Int)))) none).run Try.prog wx = .ok v wx) :
    Calls Try.prog 14 #[.slice a l c, .int .u32 x, .int .u32 y] w fun e w' => e = .returned v ∧ w = w' := by
  go_enter Try.func14, Try.ntmps14
  go_wp2
  go_ret
  exact ⟨rfl, rfl⟩
end Go.Proofs.Qxb6605987a
