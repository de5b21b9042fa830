import Derived.Test.Qxb6613483aFull
import Derived.Test.Qxb6613483aBytes
namespace Go.Proofs.Qxb6613483a
open Go.ChangeShapes Go.WideShapes Go.ChangeAt Go.RowKit
open Go.ChangeMaps Go.MapKept
set_option linter.unusedVariables false

theorem take_slice (wx : World) (a : Option Addr) (l c n : Nat) (h : n ≤ c) : (Instr.sliceAt 22 (.slice a l c) none (some (.int .i64 (n : Int))) none).run Try.prog wx = .ok (.slice a n c) wx := by
  obtain ⟨i, hi⟩ := Option.isSome_iff_exists.1 (show (Try.prog.info? 9).isSome = true by kernel_rfl)
  have hE : Try.prog.elem 22 = 9 := by kernel_rfl
  have hu : Try.prog.underlying 22 = some (.slice (Try.prog.elem 22)) := by rw [hE]; exact Try.underlying22
  rw [run_sliceAt_slice wx 22 _ _ _ _ hu, run_slice_h wx 22 a l c hu .i64 (n : Int) (by omega) (by omega), run_sizeOf _ (by rw [hE]; exact hi)]
  simp only [Result.andThen, sliced, Int.toNat_natCast, Nat.zero_mul, Nat.sub_zero]
  cases a <;> simp [Addr.add]

theorem start_own (W : World) : ((W.alloc (.map #[] 0)).alloc (.cells #[.map (some W.heap.size)] 50)).ownsMap Try.prog 9 anyElem W.heap.size 0 (.map []) := (World.ownsMap_made W Try.prog 9 anyElem).alloc _
theorem start_cell (W : World) : ((W.alloc (.map #[] 0)).alloc (.cells #[.map (some W.heap.size)] 50)).cell? ⟨W.heap.size + 1, 0, none⟩ = some (.map (some W.heap.size)) := by
  simp
theorem start_below (W : World) : Below W.heap.size W ((W.alloc (.map #[] 0)).alloc (.cells #[.map (some W.heap.size)] 50)) := ((Below.refl _ _).alloc (Nat.le_refl _) _).alloc (by simp) _

set_option maxHeartbeats 2000000 in
theorem script6 (W : World) (a1 : Option Addr) (l1 c1 b1 o1 : Nat) (f : Nat → ByteArray) (a2 : Option Addr) (l2 c2 b2 o2 : Nat) (c : Nat → Int) (a3 : Option Addr) (l3 c3 b3 o3 : Nat) (nd : Nat → ByteArray) (a4 : Option Addr) (m c4 b4 o4 : Nat) (g : Nat → ByteArray) (n : Nat)
    (h1 : RowAt 22 W a1 l1 c1 b1 o1 (fun k => .string (f k))) (h1n : RowAt 22 W a1 n c1 b1 o1 (fun k => .string (f k))) (h2 : RowAt 23 W a2 l2 c2 b2 o2 (fun k => .int .i64 (c k))) (h3 : RowAt 22 W a3 l3 c3 b3 o3 (fun k => .string (nd k))) (h4 : RowAt 22 W a4 m c4 b4 o4 (fun k => .string (g k)))
    (k1 : l1 ≤ 4096) (k2 : l2 ≤ 4096) (k3 : l3 ≤ 4096) (k4 : m ≤ 4096) (lc : l1 ≤ c1) (hn : n = min l1 (min l2 l3)) (fl : ∀ k, (f k).size ≤ maxLen) (nl : ∀ k, (nd k).size ≤ maxLen) (gl : ∀ k, (g k).size ≤ maxLen) :
    Calls Try.prog 6 #[.slice a1 l1 c1, .slice a2 l2 c2, .slice a3 l3 c3, .slice a4 m c4] W fun e w' => e = .returned (.bool true) ∧ Below W.heap.size W w' := by
  have H22 := hide (bytes22 W a1 l1 c1 b1 o1 f a2 l2 c2 a3 l3 c3 b3 o3 nd a4 m c4 b4 o4 g (by unfold maxLen; omega) (by unfold maxLen; omega) (by unfold maxLen; omega) (by unfold maxLen; omega) fl nl gl h1 h3 h4)
  have H11a := hide (fun z => add11 W z a1 l1 c1 b1 o1 f (by omega) h1)
  have H11b := hide (fun z => add11 W z a3 l3 c3 b3 o3 nd (by omega) h3)
  have H11c := hide (fun z => add11 W z a4 m c4 b4 o4 g (by omega) h4)
  have H12 := hide (min12 W l1 l2 l3 n hn)
  have n1 : n ≤ l1 := by omega
  have n2 : n ≤ l2 := by omega
  have n3 : n ≤ l3 := by omega
  have H15 := hide (fun w => fill15 W w (W.heap.size + 1) W.heap.size n a1 c1 b1 o1 f a2 l2 c2 b2 o2 c a3 l3 c3 b3 o3 nd g h1n h2 h3 (by omega) n2 n3 fl nl)
  have hsl := fun wx => take_slice wx a1 l1 c1 n (by omega)
  have hmm := @run_makeMap Try.prog
  have hmn := fun (w : World) (r : Option Nat) => run_eql_map_nil w _ _ _ r Try.underlying29
  obtain ⟨gidx, gcell, glow⟩ := h4
  have HROWS := hide (And.intro h1n (And.intro h2 (And.intro h3 (And.intro fl (And.intro nl gl)))))
  clear h1 h1n h2 h3 hn fl nl gl
  go_enter Try.func6, Try.ntmps6
  go_wp2_with fail
  refine (unhide H22).mono ?_
  rintro e w' ⟨⟨r, rfl⟩, rfl⟩
  clear H22
  cases r
  · go_wp2
    go_ret
    exact ⟨rfl, Below.refl _ _⟩
  go_wp2_with fail
  refine (unhide H11a _).mono ?_
  rintro e w' ⟨⟨z1, rfl⟩, rfl⟩
  by_cases hz1 : 1048576 < z1
  · go_wp2
    go_ret
    exact ⟨rfl, Below.refl _ _⟩
  go_wp2_with fail
  refine (unhide H11b _).mono ?_
  rintro e w' ⟨⟨z2, rfl⟩, rfl⟩
  by_cases hz2 : 1048576 < z2
  · go_wp2
    go_ret
    exact ⟨rfl, Below.refl _ _⟩
  go_wp2_with fail
  refine (unhide H11c _).mono ?_
  rintro e w' ⟨⟨z3, rfl⟩, rfl⟩
  by_cases hz3 : 1048576 < z3
  · go_wp2
    go_ret
    exact ⟨rfl, Below.refl _ _⟩
  go_wp2_with (first | (go_at_call 12; refine (unhide H12).mono ?_; rintro e w' ⟨rfl, rfl⟩) | (go_at_call 13; go_in) | (go_at_call 14; go_in))
  have HA := unhide H15 ((W.alloc (Obj.map #[] 0)).alloc (Obj.cells #[Value.map (some W.heap.size)] 50)) (start_below W) (Nat.le_refl _) (Nat.le_succ _) (by omega) (by simp; omega) (by simp) (start_cell W) (start_own W)
  rw [show ((W.alloc (Obj.map #[] 0)).alloc (Obj.cells #[Value.map (some W.heap.size)] 50)).heap.size = W.heap.size + 2 by simp] at HA
  refine HA.mono ?_
  clear HA H15 H11a H11b H11c H12
  rintro e w1 ⟨rfl, D, F0⟩
  have F1 := F0.full
  have S1 := F0.spec
  clear F0 hsl hmm hmn hz1 hz2 hz3
  generalize W.heap.size + 2 = T at *
  go_wp2
  go_loopw [14] (fun i wr => ∃ (j : Nat) (D : DataW Value), j ≤ m ∧ i = .int .i64 j ∧ Full W wr (W.heap.size + 1) W.heap.size T n D c nd ∧ Spec D f n g j (pv T)) (fun i _ => m - (intOf i).toNat)
  case atStart => exact ⟨0, D, Nat.zero_le _, rfl, F1, S1⟩
  case round =>
    clear F1 S1
    obtain ⟨j, D', hj, rfl, F, Sp⟩ := hrel
    obtain ⟨r1, r2, r3, fl, nl, gl⟩ := unhide HROWS
    by_cases hlt : j < m
    · have hc : wr.cell? ⟨b4, o4 + j, none⟩ = some (.string (g j)) := (F.bel.cell (p := ⟨b4, o4 + j, none⟩) (glow (by omega))).trans (gcell j hlt)
      have HD := hide (del20 wr (W.heap.size + 1) W.heap.size n D' (g j) F.st F.own (gl j))
      have HF := hide F
      have HS := hide Sp
      clear F Sp r1 r2 r3 fl nl gl gcell glow HROWS
      go_wp2_with (go_at_call 20; refine (unhide HD).mono ?_; rintro e w2 ⟨rfl, ho, ht⟩)
      go_roundw
      case rel => exact ⟨j + 1, _, by omega, by go_num, (unhide HF).turned ht ho, (unhide HS).del_next⟩
      case measure => simp [intOf]; omega
    · obtain rfl : m = j := by omega
      have HD := hide (after21 wr (W.heap.size + 1) W.heap.size T n D' a1 c1 b1 o1 f a2 l2 c2 b2 o2 c a3 l3 c3 b3 o3 nd a4 m c4 b4 o4 g (F.held r1 r2 r3 (by omega) n2 n3 fl nl) (RowAt.below ⟨gidx, gcell, glow⟩ F.bel) k4 Sp gl)
      have HF := hide F
      clear F Sp r1 r2 r3 fl nl gl gcell glow gidx HROWS
      go_wp2_with (go_at_call 21; refine (unhide HD).mono ?_; rintro e w2 ⟨rfl, q, rfl⟩)
      go_ret
      exact ⟨rfl, ((unhide HF).drewN q).bel⟩

set_option maxHeartbeats 1000000 in
theorem script6_short (W : World) (a1 : Option Addr) (l1 c1 b1 o1 : Nat) (f : Nat → ByteArray) (a2 : Option Addr) (l2 c2 : Nat) (a3 : Option Addr) (l3 c3 b3 o3 : Nat) (nd : Nat → ByteArray) (a4 : Option Addr) (m c4 b4 o4 : Nat) (g : Nat → ByteArray)
    (h1 : RowAt 22 W a1 l1 c1 b1 o1 (fun k => .string (f k))) (h3 : RowAt 22 W a3 l3 c3 b3 o3 (fun k => .string (nd k))) (h4 : RowAt 22 W a4 m c4 b4 o4 (fun k => .string (g k)))
    (k1 : l1 ≤ maxLen) (k2 : l2 ≤ maxLen) (k3 : l3 ≤ maxLen) (k4 : m ≤ maxLen) (fl : ∀ k, (f k).size ≤ maxLen) (nl : ∀ k, (nd k).size ≤ maxLen) (gl : ∀ k, (g k).size ≤ maxLen)
    (hg : 4096 < l1 ∨ 4096 < l2 ∨ 4096 < l3 ∨ 4096 < m) :
    Calls Try.prog 6 #[.slice a1 l1 c1, .slice a2 l2 c2, .slice a3 l3 c3, .slice a4 m c4] W fun e w' => e = .returned (.bool true) ∧ Below W.heap.size W w' := by
  have H22 := hide (bytes22 W a1 l1 c1 b1 o1 f a2 l2 c2 a3 l3 c3 b3 o3 nd a4 m c4 b4 o4 g k1 k2 k3 k4 fl nl gl h1 h3 h4)
  unfold maxLen at k1 k2 k3 k4
  clear h1 h3 h4 fl nl gl
  go_enter Try.func6, Try.ntmps6
  go_wp2_with (go_at_call 22; refine (unhide H22).mono ?_; rintro e w' ⟨⟨r, rfl⟩, rfl⟩)
  all_goals (go_ret; exact ⟨rfl, Below.refl _ _⟩)
end Go.Proofs.Qxb6613483a
