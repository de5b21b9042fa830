import Derived.Test.Qxb6613483aScript
namespace Go.Proofs.Qxb6613483a
open Go.ChangeShapes Go.WideShapes Go.ChangeAt Go.RowKit
open Go.ChangeMaps Go.MapKept
set_option linter.unusedVariables false

theorem dels_idx (wx : World) (T n k : Nat) (hk : k < n) : (Instr.indexAt 22 (.slice (some ⟨T, 0, none⟩) n n) (.int .i64 (k : Int))).run Try.prog wx = .ok (.pointer (some ⟨T, 0 + k, none⟩)) wx := by
  obtain ⟨i, hi⟩ := Option.isSome_iff_exists.1 (show (Try.prog.info? 9).isSome = true by kernel_rfl)
  have hE : Try.prog.elem 22 = 9 := by kernel_rfl
  have hc1 : Try.prog.cellsOf 9 = 1 := by kernel_rfl
  rw [run_indexAt_slice (h := by rw [hE]; exact Try.underlying22), if_pos (by omega), hE, run_sizeOf _ hi, hc1]
  simp only [Addr.add, Result.andThen]
  by_cases e : k = 0
  · subst e; simp
  · simp [e]

/-- The world once []string{d} lies at E. -/
structure One (W wr : World) (S B T n E : Nat) (D : DataW Value) (f : Nat → ByteArray) (c : Nat → Int) (nd : Nat → ByteArray) (m : Nat) (d : ByteArray) : Prop where
  full : Full W wr S B T n D c nd
  spec : Spec D f n (fun _ => d) m (pv T)
  cell : wr.cell? ⟨E, 0, none⟩ = some (.string d)
  ET : T < E

section
variable {W wr w' : World} {S B T n E m : Nat} {D D' : DataW Value} {f : Nat → ByteArray} {c : Nat → Int} {nd : Nat → ByteArray} {d : ByteArray}

theorem One.row (h : One W wr S B T n E D f c nd m d) : RowAt 22 wr (some ⟨E, 0, none⟩) 1 1 E 0 (fun k => .string ((fun _ => d) k)) :=
  ⟨fun wx k hk => dels_idx wx E 1 k hk, fun k hk => by obtain rfl : k = 0 := by omega
                                                       exact h.cell, fun _ => World.block_lt_of_cell? _ _ h.cell⟩

theorem One.drewN (h : One W wr S B T n E D f c nd m d) (q : Nat) : One W (wr.drewN q) S B T n E D f c nd m d := ⟨h.full.drewN q, h.spec, h.cell, h.ET⟩

theorem One.turned (h : One W wr S B T n E D f c nd m d) (ht : wr.mapTurned w' B) (ho : w'.ownsMap Try.prog 9 anyElem B n (D.del (kl d))) (hm : m ≤ 1) : One W w' S B T n E (D.del (kl d)) f c nd 1 d := by
  have hBT := h.full.BT
  have hET := h.ET
  have hlt : E < wr.heap.size := World.block_lt_of_cell? _ _ h.cell
  refine ⟨h.full.turned ht ho, ?_, ?_, h.ET⟩
  · have hs := h.spec
    by_cases e : m = 0
    · subst e; exact hs.del_next
    · obtain rfl : m = 1 := by omega
      exact hs.del_again (j := 0) (by omega)
  · rw [World.cell?_of_block (w := wr) (turned_block (k := E) ht hlt (by omega))]; exact h.cell

theorem One.of_full (F : Full W wr S B T n D c nd) (sp : Spec D f n (fun _ => d) 0 (pv T)) : One W (wr.alloc (.cells #[.string d] 9)) S B T n wr.heap.size D f c nd 0 d :=
  ⟨F.alloc _, sp, by simp, by have := F.size; omega⟩
end

set_option maxHeartbeats 2000000 in
theorem one5 (W : World) (a1 : Option Addr) (l1 c1 b1 o1 : Nat) (f : Nat → ByteArray) (a2 : Option Addr) (l2 c2 b2 o2 : Nat) (c : Nat → Int) (a3 : Option Addr) (l3 c3 b3 o3 : Nat) (nd : Nat → ByteArray) (d qs : ByteArray) (n : Nat)
    (h1 : RowAt 22 W a1 l1 c1 b1 o1 (fun k => .string (f k))) (h1n : RowAt 22 W a1 n c1 b1 o1 (fun k => .string (f k))) (h2 : RowAt 23 W a2 l2 c2 b2 o2 (fun k => .int .i64 (c k))) (h3 : RowAt 22 W a3 l3 c3 b3 o3 (fun k => .string (nd k)))
    (k1 : l1 ≤ 4096) (k2 : l2 ≤ 4096) (k3 : l3 ≤ 4096) (kd : d.size ≤ 65536) (kq : qs.size ≤ 65536) (lc : l1 ≤ c1) (hn : n = min l1 (min l2 l3)) (fl : ∀ k, (f k).size ≤ maxLen) (nl : ∀ k, (nd k).size ≤ maxLen) :
    Calls Try.prog 5 #[.slice a1 l1 c1, .slice a2 l2 c2, .slice a3 l3 c3, .string d, .string qs] W fun e w' => e = .returned (.bool true) ∧ Below W.heap.size W w' := by
  have dl : d.size ≤ maxLen := by unfold maxLen; omega
  have ql : qs.size ≤ maxLen := by unfold maxLen; omega
  have H19 := hide (bytes19 W a1 l1 c1 b1 o1 f a2 l2 c2 a3 l3 c3 b3 o3 nd d qs (by unfold maxLen; omega) (by unfold maxLen; omega) (by unfold maxLen; omega) dl ql fl nl h1 h3)
  have H11a := hide (fun z => add11 W z a1 l1 c1 b1 o1 f (by omega) h1)
  have H11b := hide (fun z => add11 W z a3 l3 c3 b3 o3 nd (by omega) h3)
  have H12 := hide (min12 W l1 l2 l3 n hn)
  have n1 : n ≤ l1 := by omega
  have n2 : n ≤ l2 := by omega
  have n3 : n ≤ l3 := by omega
  have H15 := hide (fun w => fill15 W w (W.heap.size + 1) W.heap.size n a1 c1 b1 o1 f a2 l2 c2 b2 o2 c a3 l3 c3 b3 o3 nd (fun _ => d) h1n h2 h3 (by omega) n2 n3 fl nl)
  have hsl := fun wx => take_slice wx a1 l1 c1 n (by omega)
  have hmm := @run_makeMap Try.prog
  have hmn := fun (w : World) (r : Option Nat) => run_eql_map_nil w _ _ _ r Try.underlying29
  -- what each check and each drop does in a world in which []string{d} lies
  have H20 := hide (fun (wr : World) (S B T E m : Nat) (D : DataW Value) (O : One W wr S B T n E D f c nd m d) => del20 wr S B n D d O.full.st O.full.own dl)
  have H21 := hide (fun (wr : World) (S B T E : Nat) (D : DataW Value) (O : One W wr S B T n E D f c nd 1 d) => after21 wr S B T n D a1 c1 b1 o1 f a2 l2 c2 b2 o2 c a3 l3 c3 b3 o3 nd (some ⟨E, 0, none⟩) 1 1 E 0 (fun _ => d) (O.full.held h1n h2 h3 (by omega) n2 n3 fl nl) O.row (by omega) O.spec (fun _ => dl))
  have H16 := hide (fun (wr : World) (S B T E : Nat) (D : DataW Value) (O : One W wr S B T n E D f c nd 1 d) => stored16 wr S B T n D a1 c1 b1 o1 f a2 l2 c2 b2 o2 c a3 l3 c3 b3 o3 nd (some ⟨E, 0, none⟩) 1 1 E 0 (fun _ => d) qs (O.full.held h1n h2 h3 (by omega) n2 n3 fl nl) O.row (by omega) O.spec ql)
  clear h1 h1n h2 h3 hn fl nl dl ql
  go_enter Try.func5, Try.ntmps5
  go_wp2_with fail
  refine (unhide H19).mono ?_
  rintro e w' ⟨⟨r, rfl⟩, rfl⟩
  clear H19
  cases r
  · go_wp2
    go_ret
    exact ⟨rfl, Below.refl _ _⟩
  go_wp2_with fail
  refine (unhide H11a _).mono ?_
  rintro e w' ⟨⟨z1, rfl⟩, rfl⟩
  by_cases hz1 : 1048576 < z1
  · go_wp2
    go_ret
    exact ⟨rfl, Below.refl _ _⟩
  go_wp2_with fail
  refine (unhide H11b _).mono ?_
  rintro e w' ⟨⟨z2, rfl⟩, rfl⟩
  by_cases hz2 : 1048576 < z2
  · go_wp2
    go_ret
    exact ⟨rfl, Below.refl _ _⟩
  go_wp2_with (first | (go_at_call 12; refine (unhide H12).mono ?_; rintro e w' ⟨rfl, rfl⟩) | (go_at_call 13; go_in) | (go_at_call 14; go_in))
  have HA := unhide H15 ((W.alloc (Obj.map #[] 0)).alloc (Obj.cells #[Value.map (some W.heap.size)] 50)) (start_below W) (Nat.le_refl _) (Nat.le_succ _) (by omega) (by simp; omega) (by simp) (start_cell W) (start_own W)
  rw [show ((W.alloc (Obj.map #[] 0)).alloc (Obj.cells #[Value.map (some W.heap.size)] 50)).heap.size = W.heap.size + 2 by simp] at HA
  refine HA.mono ?_
  clear HA H15 H11a H11b H12
  rintro e w1 ⟨rfl, D, F0⟩
  have O0 := One.of_full (d := d) F0.full F0.spec
  clear F0 hsl hmm hmn hz1 hz2
  generalize W.heap.size + 2 = T at *
  have HO0 := hide O0
  clear O0
  go_wp2_with fail
  -- the first drop
  refine (unhide H20 _ _ _ _ _ _ _ (unhide HO0)).mono ?_
  rintro e w2 ⟨rfl, ho2, ht2⟩
  have HO1 := hide ((unhide HO0).turned ht2 ho2 (by omega))
  clear HO0 ho2 ht2
  generalize D.del (kl d) = D1 at HO1
  generalize w1.heap.size = E at *
  clear w1
  go_wp2_with fail
  refine (unhide H21 _ _ _ _ _ _ (unhide HO1)).mono ?_
  rintro e w3 ⟨rfl, q1, rfl⟩
  have HO2 := hide ((unhide HO1).drewN q1)
  clear HO1
  go_wp2_with fail
  refine (unhide H16 _ _ _ _ _ _ (unhide HO2)).mono ?_
  rintro e w3 ⟨rfl, q2, rfl⟩
  have HO3 := hide ((unhide HO2).drewN q2)
  rw [World.drewN_drewN] at HO3
  clear HO2
  go_wp2_with fail
  -- the second drop
  refine (unhide H20 _ _ _ _ _ _ _ (unhide HO3)).mono ?_
  rintro e w4 ⟨rfl, ho4, ht4⟩
  have HO4 := hide ((unhide HO3).turned ht4 ho4 (by omega))
  clear HO3 ho4 ht4
  generalize D1.del (kl d) = D2 at HO4
  go_wp2_with fail
  refine (unhide H21 _ _ _ _ _ _ (unhide HO4)).mono ?_
  rintro e w5 ⟨rfl, q3, rfl⟩
  have HO5 := hide ((unhide HO4).drewN q3)
  go_wp2_with fail
  refine (unhide H16 _ _ _ _ _ _ (unhide HO5)).mono ?_
  rintro e w5 ⟨rfl, q4, rfl⟩
  go_wp2
  go_ret
  exact ⟨rfl, ((unhide HO4).drewN (q3 + q4)).full.bel⟩

set_option maxHeartbeats 1000000 in
theorem one5_short (W : World) (a1 : Option Addr) (l1 c1 b1 o1 : Nat) (f : Nat → ByteArray) (a2 : Option Addr) (l2 c2 : Nat) (a3 : Option Addr) (l3 c3 b3 o3 : Nat) (nd : Nat → ByteArray) (d qs : ByteArray)
    (h1 : RowAt 22 W a1 l1 c1 b1 o1 (fun k => .string (f k))) (h3 : RowAt 22 W a3 l3 c3 b3 o3 (fun k => .string (nd k)))
    (k1 : l1 ≤ maxLen) (k2 : l2 ≤ maxLen) (k3 : l3 ≤ maxLen) (kd : d.size ≤ maxLen) (kq : qs.size ≤ maxLen) (fl : ∀ k, (f k).size ≤ maxLen) (nl : ∀ k, (nd k).size ≤ maxLen)
    (hg : 4096 < l1 ∨ 4096 < l2 ∨ 4096 < l3 ∨ 65536 < d.size ∨ 65536 < qs.size) :
    Calls Try.prog 5 #[.slice a1 l1 c1, .slice a2 l2 c2, .slice a3 l3 c3, .string d, .string qs] W fun e w' => e = .returned (.bool true) ∧ Below W.heap.size W w' := by
  have H19 := hide (bytes19 W a1 l1 c1 b1 o1 f a2 l2 c2 a3 l3 c3 b3 o3 nd d qs k1 k2 k3 kd kq fl nl h1 h3)
  unfold maxLen at k1 k2 k3 kd kq
  clear h1 h3 fl nl
  go_enter Try.func5, Try.ntmps5
  go_wp2_with (go_at_call 19; refine (unhide H19).mono ?_; rintro e w' ⟨⟨r, rfl⟩, rfl⟩)
  all_goals (go_ret; exact ⟨rfl, Below.refl _ _⟩)
end Go.Proofs.Qxb6613483a
