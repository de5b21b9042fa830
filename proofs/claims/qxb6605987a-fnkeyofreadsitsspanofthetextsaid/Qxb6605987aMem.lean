import Derived.Test.Qxb6605987aWalks
import Derived.Laws.IdiomCopy
import Derived.Deep.AppendSrc
import Derived.Lib.JoinLaws
namespace Go.Proofs.Qxb6605987a
open Go.ChangeShapes Go.WideShapes Go.ChangeAt Go.RowKit
set_option linter.unusedVariables false

/-! ### storing a run of cells into one row -/
theorem setCells_size (b : Nat) : ∀ (vs : List Value) (o : Nat) (w : World), (w.setCells b o vs).heap.size = w.heap.size
  | [], _, _ => rfl
  | v :: r, o, w => by rw [World.setCells, setCells_size b r]; simp [World.setCell]

theorem setCells_block (b x : Nat) (hx : x ≠ b) : ∀ (vs : List Value) (o : Nat) (w : World), (w.setCells b o vs).heap[x]? = w.heap[x]?
  | [], _, _ => rfl
  | v :: r, o, w => by rw [World.setCells, setCells_block b x hx r]; exact Below.heap_setCell _ _ _ _ hx

theorem setCells_below {B : Nat} {W : World} {b : Nat} (hb : B ≤ b) : ∀ (vs : List Value) (o : Nat) (w : World), Below B W w → Below B W (w.setCells b o vs)
  | [], _, _, h => h
  | v :: r, o, w, h => setCells_below hb r (o + 1) _ (h.setCell (p := ⟨b, o, none⟩) hb v)

theorem setCells_row {b : Nat} {t : TypeId} {n : Nat} : ∀ (vs : List Value) (o : Nat) (w : World) (f : Nat → Value), w.rowIs b t n f → (w.setCells b o vs).rowIs b t n (fun j => if o ≤ j ∧ j < o + vs.length then vs.getD (j - o) undef else f j)
  | [], o, w, f, h => h.congr fun i hi => by rw [if_neg (by simp only [List.length_nil]; omega)]
  | v :: r, o, w, f, h => by
    refine (setCells_row r (o + 1) _ _ (h.set o v)).congr fun j hj => ?_
    simp only [List.length_cons]
    by_cases h1 : j = o
    · subst h1
      rw [if_neg (by omega), if_pos rfl, if_pos (by omega)]
      simp
    · by_cases h2 : o + 1 ≤ j ∧ j < o + 1 + r.length
      · rw [if_pos h2, if_pos (by omega)]
        rw [show j - o = (j - (o + 1)) + 1 by omega]
        simp
      · rw [if_neg h2, if_neg h1, if_neg (by omega)]

/-! ### a slice of bytes: its address known where it has an element -/
structure SRow (w : World) (a : Option Addr) (len cap b off : Nat) (v : Nat → Int) : Prop where
  addr : 0 < len → a = some ⟨b, off, none⟩
  nil0 : a = none → len = 0 ∧ cap = 0
  lc : len ≤ cap
  cell : ∀ k, k < len → w.cell? ⟨b, off + k, none⟩ = some (.int .u8 (v k))
  low : 0 < len → b < w.heap.size

/-- The bytes of a slice, as cells. -/
def cellsOf (l : Nat) (v : Nat → Int) : List Value := (List.range l).map fun k => .int .u8 (v k)
theorem cellsOf_len (l : Nat) (v : Nat → Int) : (cellsOf l v).length = l := by simp [cellsOf]
theorem cellsOf_at {l : Nat} {v : Nat → Int} {j : Nat} {u : Value} (h : (cellsOf l v)[j]? = some u) : j < l ∧ u = .int .u8 (v j) := by
  have hj : j < (cellsOf l v).length := (List.getElem?_eq_some_iff.1 h).1
  rw [cellsOf_len] at hj
  simp [cellsOf, hj] at h
  exact ⟨hj, h.symm⟩
theorem cellsOf_getD {l : Nat} {v : Nat → Int} {j : Nat} (h : j < l) : (cellsOf l v).getD j undef = .int .u8 (v j) := by
  simp [cellsOf, h]
theorem cellsOf_one (l : Nat) (v : Nat → Int) : ∀ u ∈ cellsOf l v, u.oneCell' = true := by
  intro u hu
  obtain ⟨k, _, rfl⟩ := List.mem_map.1 hu
  rfl

theorem elem22 : Try.prog.elem 22 = 5 := by kernel_rfl
theorem cells5 : Try.prog.cellsOf 5 = 1 := by kernel_rfl
theorem info5 : (Try.prog.info? 5).map (fun i => (i.zero, i.size, i.bytes)) = some (some (.int .u8 0), 1, 1) := by kernel_rfl
theorem info5s : (Try.prog.info? 5).map (·.size) = some 1 := by kernel_rfl
theorem info5i : ∃ i, Try.prog.info? 5 = some i ∧ i.size = 1 := by
  obtain ⟨i, hi, h⟩ := Option.map_eq_some_iff.1 info5s
  exact ⟨i, hi, h⟩

section
variable {w w' W : World} {a : Option Addr} {len cap b off : Nat} {v : Nat → Int}

theorem SRow.at_ (h : SRow w a len cap b off v) : RowAt 22 w a len cap b off (fun k => .int .u8 (v k)) := by
  refine ⟨fun wx k hk => ?_, h.cell, h.low⟩
  obtain ⟨i, hi, _⟩ := info5i
  rw [h.addr (by omega), run_indexAt_slice (h := by rw [elem22]; exact Try.underlying22), if_pos (by omega), elem22, run_sizeOf _ hi, cells5]
  simp only [Addr.add, Result.andThen]
  by_cases e : k = 0
  · subst e; simp
  · simp [e]

theorem SRow.later (h : SRow w a len cap b off v) (hk : ∀ b, b < w.heap.size → w'.heap[b]? = w.heap[b]?) (hs : w.heap.size ≤ w'.heap.size) : SRow w' a len cap b off v := by
  refine ⟨h.addr, h.nil0, h.lc, fun k hk' => ?_, fun h0 => Nat.lt_of_lt_of_le (h.low h0) hs⟩
  rw [World.cell?_of_block (w := w) (hk b (h.low (by omega)))]
  exact h.cell k hk'

theorem SRow.below (h : SRow W a len cap b off v) (hb : Below W.heap.size W w) : SRow w a len cap b off v := h.later hb.block hb.size

/-- What the slice yields as the second argument of an append. -/
theorem SRow.src (h : SRow w a len cap b off v) : Src Try.prog 1 22 (.slice a len cap) len (cellsOf len v) w := by
  cases ha : a with
  | none =>
    obtain ⟨rfl, rfl⟩ := h.nil0 ha
    exact Src.ofNil w Try.underlying22 0
  | some x =>
    refine Src.ofSlice w Try.underlying22 x len cap _ (by rw [cellsOf_len, Nat.mul_one]) (fun j u hu => ?_) (cellsOf_one _ _)
    obtain ⟨hj, rfl⟩ := cellsOf_at hu
    have e := h.addr (by omega)
    rw [ha] at e
    injection e with e
    rw [e, add_plain]
    exact h.cell j hj

/-- A slice of a slice. -/
theorem SRow.sub (h : SRow w a len cap b off v) (lo hi : Nat) (h1 : lo ≤ hi) (h2 : hi ≤ len) :
    ∃ a', (∀ wx : World, (Instr.sliceAt 22 (.slice a len cap) (some (.int .i64 (lo : Int))) (some (.int .i64 (hi : Int))) none).run Try.prog wx = .ok (.slice a' (hi - lo) (cap - lo)) wx) ∧ SRow w a' (hi - lo) (cap - lo) b (off + lo) (fun k => v (lo + k)) := by
  have hu : Try.prog.underlying 22 = some (.slice (Try.prog.elem 22)) := by rw [elem22]; exact Try.underlying22
  have hlc := h.lc
  obtain ⟨i, hi5, _⟩ := info5i
  refine ⟨if cap = lo then a else a.map (·.add (lo * 1)), fun wx => ?_, ?_, ?_, by omega, ?_, ?_⟩
  · rw [run_sliceAt_slice wx 22 _ _ _ _ hu, run_slice_lh wx 22 a len cap hu .i64 .i64 (lo : Int) (hi : Int) (by omega) (by omega) (by omega), elem22, run_sizeOf _ hi5, cells5]
    simp only [Result.andThen, sliced, Int.toNat_natCast]
  · intro h0
    rw [if_neg (by omega), h.addr (by omega), Option.map_some, Nat.mul_one, add_plain]
  · intro e
    by_cases hc : cap = lo
    · exact ⟨by omega, by omega⟩
    · rw [if_neg hc, Option.map_eq_none_iff] at e
      obtain ⟨e1, e2⟩ := h.nil0 e
      omega
  · intro k hk
    have := h.cell (lo + k) (by omega)
    rw [Nat.add_assoc]
    exact this
  · intro h0
    exact h.low (by omega)
end
end Go.Proofs.Qxb6605987a
