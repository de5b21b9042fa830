import Derived.Test.Qxb6613483aFillWalk
import Derived.Test.Qxb6613483aDrop
namespace Go.Proofs.Qxb6613483a
open Go.ChangeShapes Go.WideShapes Go.ChangeAt Go.RowKit
open Go.ChangeMaps Go.MapKept
set_option linter.unusedVariables false

/-- The world behind zzFill, whatever has been dropped since. -/
structure Full (W wr : World) (S B T n : Nat) (D : DataW Value) (c : Nat → Int) (nd : Nat → ByteArray) : Prop where
  bel : Below W.heap.size W wr
  wB : W.heap.size ≤ B
  SB : S ≠ B
  BT : B < T
  ST : S < T
  size : T + 1 + 2 * n ≤ wr.heap.size
  st : wr.cell? ⟨S, 0, none⟩ = some (.map (some B))
  own : wr.ownsMap Try.prog 9 anyElem B n D
  row : wr.rowIs T 39 n (pv T)
  count : ∀ j, j < n → Count wr (T + 2 + 2 * j) (T + 1 + 2 * j) (c j) (nd j)

section
variable {W wr w' : World} {S B T n : Nat} {D D' : DataW Value} {f : Nat → ByteArray} {c : Nat → Int} {nd g : Nat → ByteArray}

theorem Fill.full (F : Fill W wr S B T n n D f c nd g) : Full W wr S B T n D c nd :=
  ⟨F.bel, F.wB, F.SB, F.BT, F.ST, by rw [F.size]; exact Nat.le_refl _, F.st, F.own, F.row.congr fun i hi => by simp [hi], F.count⟩

theorem Full.turned (F : Full W wr S B T n D c nd) (h : wr.mapTurned w' B) (ho : w'.ownsMap Try.prog 9 anyElem B n D') : Full W w' S B T n D' c nd := by
  have hBT := F.BT
  have hST := F.ST
  have hsz := F.size
  have blk : ∀ x, x < wr.heap.size → x ≠ B → w'.heap[x]? = wr.heap[x]? := fun x hx hne => turned_block h hx hne
  refine ⟨turned_below F.bel h F.wB, F.wB, F.SB, F.BT, F.ST, by rw [turned_size h]; exact hsz, ?_, ho, ?_, ?_⟩
  · rw [World.cell?_of_block (w := wr) (blk S (by omega) F.SB)]; exact F.st
  · exact F.row.of_block (blk T (by omega) (by omega))
  · intro j hj
    exact (F.count j hj).of_blocks (blk _ (by omega) (by omega)) (blk _ (by omega) (by omega))

theorem Full.drewN (F : Full W wr S B T n D c nd) (q : Nat) : Full W (wr.drewN q) S B T n D c nd :=
  ⟨F.bel.trans ⟨rfl, rfl, rfl, Nat.le_refl _, fun _ _ => rfl⟩, F.wB, F.SB, F.BT, F.ST, F.size, F.st, F.own, F.row, fun j hj => (F.count j hj).drewN q⟩

theorem Full.alloc (F : Full W wr S B T n D c nd) (o : Obj) : Full W (wr.alloc o) S B T n D c nd := by
  have hBT := F.BT
  have hST := F.ST
  have hsz := F.size
  have blk : ∀ x, x < wr.heap.size → (wr.alloc o).heap[x]? = wr.heap[x]? := fun x hx => Below.heap_alloc _ _ _ hx
  refine ⟨F.bel.alloc F.bel.size o, F.wB, F.SB, F.BT, F.ST, by simp; omega, ?_, F.own.alloc o, F.row.alloc o, ?_⟩
  · rw [World.cell?_of_block (w := wr) (blk S (by omega))]; exact F.st
  · intro j hj
    exact (F.count j hj).of_blocks (blk _ (by omega)) (blk _ (by omega))

theorem RowAt.below {t : TypeId} {a : Option Addr} {len cap b off : Nat} {val : Nat → Value} (h : RowAt t W a len cap b off val) (hb : Below W.heap.size W wr) : RowAt t wr a len cap b off val := h.later hb.block hb.size

theorem ptrs_idx (wx : World) (T n k : Nat) (hk : k < n) : (Instr.indexAt 31 (.slice (some ⟨T, 0, none⟩) n n) (.int .i64 (k : Int))).run Try.prog wx = .ok (.pointer (some ⟨T, 0 + k, none⟩)) wx := by
  obtain ⟨i, hi⟩ := Option.isSome_iff_exists.1 (show (Try.prog.info? 39).isSome = true by kernel_rfl)
  have hE : Try.prog.elem 31 = 39 := by kernel_rfl
  have hc1 : Try.prog.cellsOf 39 = 1 := by kernel_rfl
  rw [run_indexAt_slice (h := by rw [hE]; exact Try.underlying31), if_pos (by omega), hE, run_sizeOf _ hi, hc1]
  simp only [Addr.add, Result.andThen]
  by_cases e : k = 0
  · subst e; simp
  · simp [e]

theorem Full.held {a1 : Option Addr} {c1 b1 o1 : Nat} {a2 : Option Addr} {l2 c2 b2 o2 : Nat} {a3 : Option Addr} {l3 c3 b3 o3 : Nat} (F : Full W wr S B T n D c nd)
    (h1 : RowAt 22 W a1 n c1 b1 o1 (fun k => .string (f k))) (h2 : RowAt 23 W a2 l2 c2 b2 o2 (fun k => .int .i64 (c k))) (h3 : RowAt 22 W a3 l3 c3 b3 o3 (fun k => .string (nd k)))
    (hn : n ≤ 4096) (n2 : n ≤ l2) (n3 : n ≤ l3) (fl : ∀ k, (f k).size ≤ maxLen) (nl : ∀ k, (nd k).size ≤ maxLen) :
    Held wr S B T n D a1 c1 b1 o1 f a2 l2 c2 b2 o2 c a3 l3 c3 b3 o3 nd :=
  ⟨F.st, F.own, h1.below F.bel, h2.below F.bel, h3.below F.bel, ⟨fun wx k hk => ptrs_idx wx T n k hk, fun k hk => by rw [Nat.zero_add]; exact F.row.cell hk, fun _ => F.row.lt⟩, F.count, fl, nl, hn, n2, n3⟩
end
end Go.Proofs.Qxb6613483a
