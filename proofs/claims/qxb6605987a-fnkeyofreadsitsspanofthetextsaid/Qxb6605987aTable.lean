import Derived.Test.Qxb6605987aCopies
import Derived.RegionTactic
import Derived.ChangeAlike
import Derived.LoopN
import Derived.BigRegion
namespace Go.Proofs.Qxb6605987a
open Go.ChangeShapes Go.WideShapes Go.ChangeAt Go.RowKit
set_option linter.unusedVariables false

theorem make44 (w : World) : (Instr.makeSlice 44 (.int .i64 1) (.int .i64 1)).run Try.prog w = .ok (.slice (some ⟨w.heap.size, 0, none⟩) 1 1) (w.alloc (.cells #[.int .u32 0, .int .u32 0, .int .u32 0, .int .u32 0, .int .u32 0, .int .u8 0, .int .u8 0, .bool false] 50)) := by kernel_rfl
theorem info44 : (Try.prog.info? 44).map (fun i => (i.zero, i.size, i.bytes)) = some (some (.slice none 0 0), 1, 24) := by kernel_rfl
theorem make51 (w : World) : (Instr.makeSlice 51 (.int .i64 128) (.int .i64 128)).run Try.prog w = .ok (.slice (some ⟨w.heap.size, 0, none⟩) 128 128) (w.alloc (.cells (madeCells #[.slice none 0 0] 128) 44)) :=
  run_make_row' (P := Try.prog) 51 44 (.slice none 0 0) 24 Try.underlying51 info44 rfl .i64 .i64 128 (by omega) (by omega) w

/-- What ZZkeyOf reads: the table, its document, the chunks, the field. -/
structure Tab (w : World) (T Dc C Ch Fs : Nat) (vf vu : Value) (x y : Int) : Prop where
  t5 : w.cell? ⟨T, 5, none⟩ = some (.pointer (some ⟨Dc, 0, none⟩))
  t6 : w.cell? ⟨T, 6, none⟩ = some (.int .u32 1)
  d8 : w.cell? ⟨Dc, 8, none⟩ = some (.slice (some ⟨C, 0, none⟩) 1 1)
  d10 : w.cell? ⟨Dc, 10, none⟩ = some vf
  d11 : w.cell? ⟨Dc, 11, none⟩ = some vu
  c0 : w.cell? ⟨C, 0, none⟩ = some (.slice (some ⟨Ch, 0, none⟩) 128 128)
  h1 : w.cell? ⟨Ch, 1, none⟩ = some (.slice (some ⟨Fs, 0, none⟩) 1 1)
  f0 : w.cell? ⟨Fs, 0, none⟩ = some (.int .u32 x)
  f1 : w.cell? ⟨Fs, 1, none⟩ = some (.int .u32 y)

theorem Tab.drewN {w : World} {T Dc C Ch Fs : Nat} {vf vu : Value} {x y : Int} (h : Tab w T Dc C Ch Fs vf vu x y) (q : Nat) : Tab (w.drewN q) T Dc C Ch Fs vf vu x y := ⟨h.t5, h.t6, h.d8, h.d10, h.d11, h.c0, h.h1, h.f0, h.f1⟩

/-- The world that ZZtable leaves. -/
def tableW (w : World) (vf vu : Value) (x y : Int) : World :=
  (((((w.alloc (.cells #[.int .u32 x, .int .u32 y, .int .u32 0, .int .u32 0, .int .u32 0, .int .u8 0, .int .u8 0, .bool false] 50)).alloc
    (.cells ((madeCells #[.slice none 0 0] 128).setIfInBounds 1 (.slice (some ⟨w.heap.size, 0, none⟩) 1 1)) 44)).alloc
    (.cells #[.slice (some ⟨w.heap.size + 1, 0, none⟩) 128 128] 51)).alloc
    (.cells #[.pointer none, .string { data := #[] }, .int .i64 0, .string { data := #[] }, .bool false, .pointer none, .int .u32 0, .nilIface, .slice (some ⟨w.heap.size + 1 + 1, 0, none⟩) 1 1, .map none, vf, vu] 63)).alloc
    (.cells #[.pointer none, .string { data := #[] }, .int .i64 0, .string { data := #[] }, .bool false, .pointer (some ⟨w.heap.size + 1 + 1 + 1, 0, none⟩), .int .u32 1] 58)).drew

theorem tab_of (w : World) (vf vu : Value) (x y : Int) : Tab (tableW w vf vu x y) (w.heap.size + 1 + 1 + 1 + 1) (w.heap.size + 1 + 1 + 1) (w.heap.size + 1 + 1) (w.heap.size + 1) w.heap.size vf vu x y := by
  have b0 : (tableW w vf vu x y).heap[w.heap.size]? = some (.cells #[.int .u32 x, .int .u32 y, .int .u32 0, .int .u32 0, .int .u32 0, .int .u8 0, .int .u8 0, .bool false] 50) := by
    show (((((w.heap.push _).push _).push _).push _).push _)[w.heap.size]? = _
    simp only [Array.getElem?_push, Array.size_push]
    rw [if_neg (by omega), if_neg (by omega), if_neg (by omega), if_neg (by omega), if_pos trivial]
  have b1 : (tableW w vf vu x y).heap[w.heap.size + 1]? = some (.cells ((madeCells #[.slice none 0 0] 128).setIfInBounds 1 (.slice (some ⟨w.heap.size, 0, none⟩) 1 1)) 44) := by
    show (((((w.heap.push _).push _).push _).push _).push _)[w.heap.size + 1]? = _
    simp only [Array.getElem?_push, Array.size_push]
    rw [if_neg (by omega), if_neg (by omega), if_neg (by omega), if_pos trivial]
  have b2 : (tableW w vf vu x y).heap[w.heap.size + 1 + 1]? = some (.cells #[.slice (some ⟨w.heap.size + 1, 0, none⟩) 128 128] 51) := by
    show (((((w.heap.push _).push _).push _).push _).push _)[w.heap.size + 1 + 1]? = _
    simp only [Array.getElem?_push, Array.size_push]
    rw [if_neg (by omega), if_neg (by omega), if_pos trivial]
  have b3 : (tableW w vf vu x y).heap[w.heap.size + 1 + 1 + 1]? = some (.cells #[.pointer none, .string { data := #[] }, .int .i64 0, .string { data := #[] }, .bool false, .pointer none, .int .u32 0, .nilIface, .slice (some ⟨w.heap.size + 1 + 1, 0, none⟩) 1 1, .map none, vf, vu] 63) := by
    show (((((w.heap.push _).push _).push _).push _).push _)[w.heap.size + 1 + 1 + 1]? = _
    simp only [Array.getElem?_push, Array.size_push]
    rw [if_neg (by omega), if_pos trivial]
  have b4 : (tableW w vf vu x y).heap[w.heap.size + 1 + 1 + 1 + 1]? = some (.cells #[.pointer none, .string { data := #[] }, .int .i64 0, .string { data := #[] }, .bool false, .pointer (some ⟨w.heap.size + 1 + 1 + 1, 0, none⟩), .int .u32 1] 58) := by
    show (((((w.heap.push _).push _).push _).push _).push _)[w.heap.size + 1 + 1 + 1 + 1]? = _
    simp only [Array.getElem?_push, Array.size_push]
    rw [if_pos trivial]
  have hm : ((madeCells #[Value.slice none 0 0] 128).setIfInBounds 1 (.slice (some ⟨w.heap.size, 0, none⟩) 1 1))[1]? = some (.slice (some ⟨w.heap.size, 0, none⟩) 1 1) := by
    rw [Array.getElem?_setIfInBounds]
    simp [madeCells]
  exact ⟨by simp [World.cell?, b4], by simp [World.cell?, b4], by simp [World.cell?, b3], by simp [World.cell?, b3], by simp [World.cell?, b3], by simp [World.cell?, b2], by simp [World.cell?, b1, hm], by simp [World.cell?, b0], by simp [World.cell?, b0]⟩

theorem tableW_below (w : World) (vf vu : Value) (x y : Int) : Below w.heap.size w (tableW w vf vu x y) :=
  ((((((Below.refl _ _).alloc (Nat.le_refl _) _).alloc (by simp) _).alloc (by simp; omega) _).alloc (by simp; omega) _).alloc (by simp; omega) _).drew

set_option maxHeartbeats 1000000 in
theorem table11 (w : World) (fa : Option Addr) (fl fc : Nat) (ua : Option Addr) (ul uc : Nat) (A N K : Nat) (x y : Int)
    (hA : w.cell? ⟨A, 0, none⟩ = some (.int .u32 x)) (hN : w.cell? ⟨N, 0, none⟩ = some (.int .u32 y)) (hK : w.cell? ⟨K, 0, none⟩ = some (.bool false)) (lA : A < w.heap.size) (lN : N < w.heap.size) (lK : K < w.heap.size) :
    Calls Try.prog 11 #[.slice fa fl fc, .slice ua ul uc, .slice (some ⟨A, 0, none⟩) 1 1, .slice (some ⟨N, 0, none⟩) 1 1, .slice (some ⟨K, 0, none⟩) 1 1] w fun e w' => e = .returned (.pointer (some ⟨w.heap.size + 1 + 1 + 1 + 1, 0, none⟩)) ∧ w' = tableW w (.slice fa fl fc) (.slice ua ul uc) x y := by
  have h44 := make44
  have h51 := make51
  have hm1 : (madeCells #[Value.slice none 0 0] 128)[1]? = some (.slice none 0 0) := by simp [madeCells]
  go_enter Try.func11, Try.ntmps11
  go_wp2
  refine wp_loop_rounds 2 ?_
  rw [rounds_succ]
  go_wp2
  go_region
  go_wp2
  rw [rounds_succ]
  go_wp2
  go_ret
  exact ⟨rfl, rfl⟩
end Go.Proofs.Qxb6605987a
