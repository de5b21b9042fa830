import Derived.Test.Qxb6613483aStored
namespace Go.Proofs.Qxb6613483a
open Go.ChangeShapes Go.WideShapes Go.ChangeAt Go.RowKit
open Go.ChangeMaps Go.MapKept
set_option linter.unusedVariables false

theorem turned_size {w w' : World} {b : Nat} (h : w.mapTurned w' b) : w'.heap.size = w.heap.size := by
  obtain ⟨es, cl, es', cl', hb, rfl⟩ := h
  simp [setBlock]

theorem turned_block {w w' : World} {b k : Nat} (h : w.mapTurned w' b) (hk : k < w.heap.size) (hne : k ≠ b) : w'.heap[k]? = w.heap[k]? :=
  h.grown.block k hk (fun e => hne (by injection e))

theorem turned_below {W w w' : World} {b : Nat} (hB : Below W.heap.size W w) (h : w.mapTurned w' b) (hb : W.heap.size ≤ b) : Below W.heap.size W w' :=
  hB.grown h.grown hB.size (fun k e => by injection e with e; omega)

theorem Count.of_blocks {w w' : World} {q m : Nat} {c : Int} {nd : ByteArray} (h : Count w q m c nd) (e1 : w'.heap[q]? = w.heap[q]?) (e2 : w'.heap[m]? = w.heap[m]?) : Count w' q m c nd := by
  obtain ⟨a, b, es, cl, hb, r⟩ := h
  exact ⟨(World.cell?_of_block (w := w) e1).trans a, (World.cell?_of_block (w := w) e1).trans b, es, cl, e2.trans hb, r⟩

/-- The world in zzFill's k-th round. -/
structure Fill (W wr : World) (S B T n k : Nat) (D : DataW Value) (f : Nat → ByteArray) (c : Nat → Int) (nd g : Nat → ByteArray) : Prop where
  bel : Below W.heap.size W wr
  wB : W.heap.size ≤ B
  wS : W.heap.size ≤ S
  SB : S ≠ B
  BT : B < T
  ST : S < T
  size : wr.heap.size = T + 1 + 2 * k
  st : wr.cell? ⟨S, 0, none⟩ = some (.map (some B))
  own : wr.ownsMap Try.prog 9 anyElem B k D
  spec : Spec D f k g 0 (pv T)
  row : wr.rowIs T 39 n (fun j => if j < k then pv T j else .pointer none)
  count : ∀ j, j < k → Count wr (T + 2 + 2 * j) (T + 1 + 2 * j) (c j) (nd j)

section
variable {W wr w2 w5 : World} {S B T n k : Nat} {D : DataW Value} {f : Nat → ByteArray} {c : Nat → Int} {nd g : Nat → ByteArray}

/-- Behind the store into the new map of nodes. -/
structure Mid (W w2 : World) (S B T n k : Nat) (D : DataW Value) (c : Nat → Int) (nd : Nat → ByteArray) : Prop where
  bel : Below W.heap.size W w2
  size : w2.heap.size = T + 2 + 2 * k
  st : w2.cell? ⟨S, 0, none⟩ = some (.map (some B))
  own : w2.ownsMap Try.prog 9 anyElem B k D
  row : w2.rowIs T 39 n (fun j => if j < k then pv T j else .pointer none)
  count : ∀ j, j < k → Count w2 (T + 2 + 2 * j) (T + 1 + 2 * j) (c j) (nd j)

theorem Fill.mid (F : Fill W wr S B T n k D f c nd g) (h : (wr.alloc (.map #[] 0)).mapTurned w2 wr.heap.size) : Mid W w2 S B T n k D c nd := by
  have hsz := F.size
  have hBT := F.BT
  have hST := F.ST
  have hs1 : (wr.alloc (.map #[] 0)).heap.size = wr.heap.size + 1 := by simp
  have blk : ∀ x, x < wr.heap.size → w2.heap[x]? = wr.heap[x]? := fun x hx => by
    rw [turned_block h (by omega) (by omega)]
    exact Below.heap_alloc _ _ _ hx
  refine ⟨turned_below (F.bel.alloc F.bel.size _) h F.bel.size, by rw [turned_size h]; omega, ?_, ?_, ?_, ?_⟩
  · rw [World.cell?_of_block (w := wr) (blk S (by omega))]; exact F.st
  · obtain ⟨es, cl, hb, r⟩ := F.own
    exact ⟨es, cl, (blk B (by omega)).trans hb, r⟩
  · exact F.row.of_block (blk T (by omega))
  · intro j hj
    exact (F.count j hj).of_blocks (blk _ (by omega)) (blk _ (by omega))

theorem Fill.step (F : Fill W wr S B T n k D f c nd g) (hk : k < n) (hown2 : w2.ownsMap Try.prog 9 anyElem wr.heap.size 1 ((DataW.map []).put (kl (nd k)) (.held (.bool true)))) (h : (wr.alloc (.map #[] 0)).mapTurned w2 wr.heap.size)
    (hown5 : w5.ownsMap Try.prog 9 anyElem B (k + 1) (D.put (kl (f k)) (.held (.pointer (some ⟨w2.heap.size, 0, none⟩)))))
    (h5 : ((w2.setCell ⟨T, k, none⟩ (.pointer (some ⟨w2.heap.size, 0, none⟩))).alloc (.cells #[.int .i64 (c k), .map (some wr.heap.size)] 47)).mapTurned w5 B) :
    ∃ D', Fill W w5 S B T n (k + 1) D' f c nd g := by
  have M := F.mid h
  have hsz := F.size
  have hsz2 := M.size
  have hBT := F.BT
  have hST := F.ST
  have hSB := F.SB
  have hWB := F.wB
  have hWS := F.wS
  have ep : (Value.pointer (some ⟨w2.heap.size, 0, none⟩)) = pv T k := by rw [hsz2]; rfl
  rw [ep] at hown5 h5
  have hs3 : (w2.setCell ⟨T, k, none⟩ (pv T k)).heap.size = w2.heap.size := by simp [World.setCell]
  have hs4 : ((w2.setCell ⟨T, k, none⟩ (pv T k)).alloc (.cells #[.int .i64 (c k), .map (some wr.heap.size)] 47)).heap.size = w2.heap.size + 1 := by simp [World.setCell]
  have blk : ∀ x, x < w2.heap.size → x ≠ B → x ≠ T → w5.heap[x]? = w2.heap[x]? := fun x hx hB hT => by
    rw [turned_block h5 (by omega) hB, Below.heap_alloc _ _ _ (by omega)]
    exact Below.heap_setCell _ _ _ _ hT
  refine ⟨D.put (kl (f k)) (.held (pv T k)), ?_, hWB, hWS, hSB, hBT, hST, ?_, ?_, hown5, F.spec.put, ?_, ?_⟩
  · exact turned_below ((M.bel.setCell (p := ⟨T, k, none⟩) (by show W.heap.size ≤ T; omega) _).alloc (by rw [hs3]; exact M.bel.size) _) h5 hWB
  · rw [turned_size h5, hs4]; omega
  · rw [World.cell?_of_block (w := w2) (blk S (by omega) hSB (by omega))]; exact M.st
  · have r := ((M.row.set k (pv T k)).alloc (.cells #[.int .i64 (c k), .map (some wr.heap.size)] 47)).of_block (w' := w5) (turned_block h5 (by omega) (by omega))
    refine r.congr fun j hj => ?_
    by_cases e : j = k
    · subst e; simp
    · simp only [e, if_false]
      by_cases l : j < k
      · rw [if_pos l, if_pos (by omega)]
      · rw [if_neg l, if_neg (by omega)]
  · intro j hj
    by_cases e : j = k
    · subst e
      have hq : w5.heap[T + 2 + 2 * j]? = some (.cells #[.int .i64 (c j), .map (some wr.heap.size)] 47) := by
        rw [turned_block h5 (by omega) (by omega), ← hsz2, ← hs3]
        exact (MapKept.heap_alloc _ _).1
      have em : T + 1 + 2 * j = wr.heap.size := hsz.symm
      refine ⟨by simp [World.cell?, hq], by rw [em]; simp [World.cell?, hq], ?_⟩
      rw [em]
      obtain ⟨es, cl, hb, r⟩ := hown2
      exact ⟨es, cl, (blk _ (by omega) (by omega) (by omega)).trans hb, r⟩
    · exact (M.count j (by omega)).of_blocks (blk _ (by omega) (by omega) (by omega)) (blk _ (by omega) (by omega) (by omega))
end
end Go.Proofs.Qxb6613483a
