import Derived.Test.Qxb6605987aMem
namespace Go.Proofs.Qxb6605987a
open Go.ChangeShapes Go.WideShapes Go.ChangeAt Go.RowKit
set_option linter.unusedVariables false

/-- A slice whose row the call has made, at or above block B. -/
structure Own (w : World) (B : Nat) (a : Option Addr) (len b : Nat) (v : Nat → Int) : Prop where
  row : SRow w a len len b 0 v
  hi : 0 < len → B ≤ b

theorem made_row (w : World) (l : Nat) : (w.alloc (.cells (madeCells #[.int .u8 0] l) 5)).rowIs w.heap.size 5 l (fun _ => .int .u8 0) := World.rowIs_made w (.int .u8 0) l 5

/-- copy(c, b) into the row that make has just laid. -/
theorem copy_run (w : World) (x : Addr) (l cap b off : Nat) (v : Nat → Int) (h : SRow w (some x) l cap b off v) (ty : TypeId) :
    (Builtin.copy_ #[22, 22] ty #[.slice (some ⟨w.heap.size, 0, none⟩) l l, .slice (some x) l cap]).run Try.prog (w.alloc (.cells (madeCells #[.int .u8 0] l) 5)) = .ok (.int .i64 (l : Int)) ((w.alloc (.cells (madeCells #[.int .u8 0] l) 5)).setCells w.heap.size 0 (cellsOf l v)) := by
  have hr := made_row w l
  have h' : SRow (w.alloc (.cells (madeCells #[.int .u8 0] l) 5)) (some x) l cap b off v := h.later (fun k hk => Below.heap_alloc _ _ _ hk) (by simp)
  have e := run_copy_cells (P := Try.prog) (w.alloc (.cells (madeCells #[.int .u8 0] l) 5)) 22 22 ty 5 w.heap.size 0 l l x l cap (cellsOf l v) Try.underlying22 info5s (by rw [cellsOf_len]; exact (Nat.min_self l).symm)
    (fun j u hu => ?_) (fun j hj => ?_) (fun j hj => ?_) (cellsOf_one _ _)
  · rw [e, cellsOf_len]; rfl
  · obtain ⟨hj, rfl⟩ := cellsOf_at hu
    have e := h'.addr (by omega)
    injection e with e
    rw [e, add_plain]
    exact h'.cell j hj
  · rw [cellsOf_len] at hj
    rw [Nat.zero_add, hr.cell hj]; rfl
  · exact hr.frozen _

set_option maxHeartbeats 400000 in
theorem clone9 (w : World) (a : Option Addr) (l cap b off : Nat) (v : Nat → Int) (h : SRow w a l cap b off v) (hl : l ≤ 262144) :
    Calls Try.prog 9 #[.slice a l cap] w fun e w' => ∃ a' b', e = .returned (.slice a' l l) ∧ Below w.heap.size w w' ∧ Own w' w.heap.size a' l b' v := by
  have hnil := fun (w : World) (a : Option Addr) (n c : Nat) => Lib.run_eql_slice_nil w 22 5 a n c 0 0 Try.underlying22
  cases ha : a with
  | none =>
    obtain ⟨rfl, rfl⟩ := h.nil0 ha
    clear h
    go_enter Try.func9, Try.ntmps9
    go_wp2
    go_ret
    exact ⟨none, 0, rfl, Below.refl _ _, ⟨fun h => by omega, fun _ => ⟨rfl, rfl⟩, Nat.le_refl _, fun k hk => by omega, fun h => by omega⟩, fun h => by omega⟩
  | some x =>
    subst ha
    have hmk := run_make_row' (P := Try.prog) 22 5 (.int .u8 0) 1 Try.underlying22 info5 rfl .i64 .i64 l (by omega) (by omega)
    obtain ⟨w2, hw2⟩ : ∃ w2, w2 = (w.alloc (.cells (madeCells #[.int .u8 0] l) 5)).setCells w.heap.size 0 (cellsOf l v) := ⟨_, rfl⟩
    have hcp := copy_run w x l cap b off v h
    rw [← hw2] at hcp
    have FIN : Hid (Below w.heap.size w w2 ∧ Own w2 w.heap.size (some ⟨w.heap.size, 0, none⟩) l w.heap.size v) := by
      subst hw2
      have hr := setCells_row (cellsOf l v) 0 _ _ (made_row w l)
      have hc : ∀ k, k < l → ((w.alloc (.cells (madeCells #[.int .u8 0] l) 5)).setCells w.heap.size 0 (cellsOf l v)).cell? ⟨w.heap.size, 0 + k, none⟩ = some (.int .u8 (v k)) := fun k hk => by
        rw [Nat.zero_add, hr.cell hk, if_pos (by rw [cellsOf_len]; omega), Nat.sub_zero, cellsOf_getD hk]
      exact ⟨setCells_below (Nat.le_refl _) _ _ _ ((Below.refl _ _).alloc (Nat.le_refl _) _), ⟨fun _ => rfl, fun e => by simp at e, Nat.le_refl _, hc, fun _ => hr.lt⟩, fun _ => Nat.le_refl _⟩
    clear hw2 h
    go_enter Try.func9, Try.ntmps9
    go_wp2
    go_ret
    exact ⟨_, _, rfl, (unhide FIN).1, (unhide FIN).2⟩

/-- append(out, x...) into the room of a row of one's own. -/
theorem app_run (w : World) (J n k : Nat) (f : Nat → Value) (hr : w.rowIs J 5 n f) (a : Option Addr) (l cap b off : Nat) (v : Nat → Int) (h : SRow w a l cap b off v) (hroom : k + l ≤ n) (ty : TypeId) :
    (Builtin.append_ #[22, 22] ty #[.slice (some ⟨J, 0, none⟩) k n, .slice a l cap]).run Try.prog w = .ok (.slice (some ⟨J, 0, none⟩) (k + l) n) (w.setCells J k (cellsOf l v)) := by
  obtain ⟨i, hi, hs⟩ := info5i
  have e := run_append_room_src (P := Try.prog) w 22 22 ty 5 i Try.underlying22 hi J 0 k n (.slice a l cap) l (cellsOf l v) (by rw [hs]; exact h.src) hroom (fun j hj => ?_) (fun j hj => hr.frozen _)
  · rw [e, hs, Nat.mul_one, Nat.zero_add]
  · rw [cellsOf_len] at hj
    rw [hs, Nat.mul_one, Nat.zero_add, hr.cell (by omega)]; rfl

/-- An append whose run is known. -/
theorem wpList_append_eq {P : Program} (w : World) {ops : Array Oper} {rest : List Oper} {o : Oper} {a : Act} {Q : Exit → Act → World → Prop}
    (hg : o.guard = none) (s x : Operand) (t : TypeId) (hop : o.op = Op.call { callee := Callee.builtin Builtin.append, args := #[s, x], argTypes := #[t, t] })
    (vs vx v' : Value) (w' : World) (hrun : ∀ ty, (Builtin.append_ #[t, t] ty #[vs, vx]).run P w = .ok v' w') (hs : a.eval s = vs) (hx : a.eval x = vx)
    (hK : wpList P ops Q rest (a.put o.dst v') w') : wpList P ops Q (o :: rest) a w := by
  refine wpList_plain hg fun K' hK' => ?_
  unfold Oper.wp
  simp [execOp, hop, resolve, invoke, builtin, hs, hx, hrun o.type, Result.andThen]
  exact hK' _ _ hK

/-- The two texts behind one another. -/
def both (l1 : Nat) (v1 v2 : Nat → Int) (j : Nat) : Int := if j < l1 then v1 j else v2 (j - l1)

set_option maxHeartbeats 400000 in
theorem join10 (w : World) (a1 : Option Addr) (l1 c1 b1 o1 : Nat) (v1 : Nat → Int) (a2 : Option Addr) (l2 c2 b2 o2 : Nat) (v2 : Nat → Int) (h1 : SRow w a1 l1 c1 b1 o1 v1) (h2 : SRow w a2 l2 c2 b2 o2 v2) (k1 : l1 ≤ 262144) (k2 : l2 ≤ 262144) :
    Calls Try.prog 10 #[.slice a1 l1 c1, .slice a2 l2 c2] w fun e w' => e = .returned (.slice (some ⟨w.heap.size, 0, none⟩) (l1 + l2) (l1 + l2)) ∧ Below w.heap.size w w' ∧ SRow w' (some ⟨w.heap.size, 0, none⟩) (l1 + l2) (l1 + l2) w.heap.size 0 (both l1 v1 v2) := by
  have hmk0 := run_make_room (P := Try.prog) 22 5 (.int .u8 0) 1 Try.underlying22 info5 rfl .i64 .i64 (l1 + l2) (by omega) (by omega)
  rw [show ((l1 + l2 : Nat) : Int) = (l1 : Int) + (l2 : Int) by omega] at hmk0
  have r0 := made_row w (l1 + l2)
  have g1 : SRow (w.alloc (.cells (madeCells #[.int .u8 0] (l1 + l2)) 5)) a1 l1 c1 b1 o1 v1 := h1.later (fun k hk => Below.heap_alloc _ _ _ hk) (by simp)
  have g2 : SRow (w.alloc (.cells (madeCells #[.int .u8 0] (l1 + l2)) 5)) a2 l2 c2 b2 o2 v2 := h2.later (fun k hk => Below.heap_alloc _ _ _ hk) (by simp)
  have e1 := app_run _ w.heap.size (l1 + l2) 0 _ r0 a1 l1 c1 b1 o1 v1 g1 (by omega)
  rw [Nat.zero_add] at e1
  have r1 := setCells_row (cellsOf l1 v1) 0 _ _ r0
  obtain ⟨w2, hw2⟩ : ∃ w2, w2 = (w.alloc (.cells (madeCells #[.int .u8 0] (l1 + l2)) 5)).setCells w.heap.size 0 (cellsOf l1 v1) := ⟨_, rfl⟩
  rw [← hw2] at e1 r1
  have q2 : SRow w2 a2 l2 c2 b2 o2 v2 := by
    refine ⟨h2.addr, h2.nil0, h2.lc, fun k hk => ?_, fun h0 => ?_⟩
    · have hb := h2.low (by omega)
      rw [World.cell?_of_block (w := w.alloc (.cells (madeCells #[.int .u8 0] (l1 + l2)) 5)) (by rw [hw2]; exact setCells_block _ _ (by show b2 ≠ w.heap.size; omega) _ _ _)]
      exact g2.cell k hk
    · rw [hw2, setCells_size]; exact g2.low h0
  have e2 := app_run w2 w.heap.size (l1 + l2) l1 _ r1 a2 l2 c2 b2 o2 v2 q2 (Nat.le_refl _)
  have r2 := setCells_row (cellsOf l2 v2) l1 _ _ r1
  have bl : Below w.heap.size w (w2.setCells w.heap.size l1 (cellsOf l2 v2)) := by
    rw [hw2]
    exact setCells_below (Nat.le_refl _) _ _ _ (setCells_below (Nat.le_refl _) _ _ _ ((Below.refl _ _).alloc (Nat.le_refl _) _))
  obtain ⟨w3, hw3⟩ : ∃ w3, w3 = w2.setCells w.heap.size l1 (cellsOf l2 v2) := ⟨_, rfl⟩
  rw [← hw3] at e2 r2 bl
  have FIN : Hid (Below w.heap.size w w3 ∧ SRow w3 (some ⟨w.heap.size, 0, none⟩) (l1 + l2) (l1 + l2) w.heap.size 0 (both l1 v1 v2)) := by
    refine ⟨bl, fun _ => rfl, fun e => by simp at e, Nat.le_refl _, fun k hk => ?_, fun _ => r2.lt⟩
    rw [Nat.zero_add, r2.cell hk]
    unfold both
    simp only [cellsOf_len]
    by_cases hk1 : k < l1
    · rw [if_neg (by omega), if_pos (by omega), if_pos hk1, Nat.sub_zero, cellsOf_getD hk1]
    · rw [if_pos (by omega), if_neg hk1, cellsOf_getD (by omega)]
  clear hw2 hw3 h1 h2 g1 g2 q2 r0 r1 r2 bl
  have tok : True := trivial
  have E1 := hide e1
  have E2 := hide e2
  clear e1 e2
  go_enter Try.func10, Try.ntmps10
  go_wp2_with (first | (at_builtin; have _t := tok; refine wpList_append_eq _ rfl _ _ 22 rfl _ _ _ _ (unhide E1) rfl rfl ?_; clear tok) | (at_builtin; refine wpList_append_eq _ rfl _ _ 22 rfl _ _ _ _ (unhide E2) rfl rfl ?_))
  go_ret
  exact ⟨rfl, (unhide FIN).1, (unhide FIN).2⟩
end Go.Proofs.Qxb6605987a
