import Derived.Test.Qxb6613483aFill
namespace Go.Proofs.Qxb6613483a
open Go.ChangeShapes Go.WideShapes Go.ChangeAt Go.RowKit
open Go.ChangeMaps Go.MapKept
set_option linter.unusedVariables false

theorem hint45 (w : World) : (Instr.makeMap 45 (some (.int .i64 1))).run Try.prog w = .ok (.map (some w.heap.size)) (w.alloc (.map #[] 0)) := by kernel_rfl
theorem info39 : (Try.prog.info? 39).map (fun i => (i.zero, i.size, i.bytes)) = some (some (.pointer none), 1, 8) := by kernel_rfl

theorem Fill.zero {W w : World} {S B n : Nat} {f : Nat → ByteArray} {c : Nat → Int} {nd g : Nat → ByteArray} (hb : Below W.heap.size W w) (wB : W.heap.size ≤ B) (wS : W.heap.size ≤ S) (SB : S ≠ B) (hB : B < w.heap.size) (hS : S < w.heap.size)
    (st : w.cell? ⟨S, 0, none⟩ = some (.map (some B))) (own : w.ownsMap Try.prog 9 anyElem B 0 (.map [])) :
    Fill W (w.alloc (.cells (madeCells #[.pointer none] n) 39)) S B w.heap.size n 0 (.map []) f c nd g := by
  refine ⟨hb.alloc hb.size _, wB, wS, SB, hB, hS, by simp, ?_, own.alloc _, Spec.empty f g _, ?_, fun j hj => by omega⟩
  · rw [World.cell?_of_block (w := w) (Below.heap_alloc _ _ _ hS)]; exact st
  · exact (World.rowIs_made w (.pointer none) n 39).congr fun i hi => by simp

set_option maxHeartbeats 1000000 in
theorem fill15 (W w : World) (S B n : Nat) (a1 : Option Addr) (c1 b1 o1 : Nat) (f : Nat → ByteArray) (a2 : Option Addr) (l2 c2 b2 o2 : Nat) (c : Nat → Int) (a3 : Option Addr) (l3 c3 b3 o3 : Nat) (nd g : Nat → ByteArray)
    (h1 : RowAt 22 W a1 n c1 b1 o1 (fun k => .string (f k))) (h2 : RowAt 23 W a2 l2 c2 b2 o2 (fun k => .int .i64 (c k))) (h3 : RowAt 22 W a3 l3 c3 b3 o3 (fun k => .string (nd k)))
    (hn : n ≤ 4096) (n2 : n ≤ l2) (n3 : n ≤ l3) (fl : ∀ k, (f k).size ≤ maxLen) (nl : ∀ k, (nd k).size ≤ maxLen)
    (hb : Below W.heap.size W w) (wB : W.heap.size ≤ B) (wS : W.heap.size ≤ S) (SB : S ≠ B) (hB : B < w.heap.size) (hS : S < w.heap.size)
    (st : w.cell? ⟨S, 0, none⟩ = some (.map (some B))) (own : w.ownsMap Try.prog 9 anyElem B 0 (.map [])) :
    Calls Try.prog 15 #[.map (some B), .slice a1 n c1, .slice a2 l2 c2, .slice a3 l3 c3] w fun e w' => e = .returned (.slice (some ⟨w.heap.size, 0, none⟩) n n) ∧ ∃ D, Fill W w' S B w.heap.size n n D f c nd g := by
  have F0 : Fill W (w.alloc (.cells (madeCells #[.pointer none] n) 39)) S B w.heap.size n 0 (.map []) f c nd g := Fill.zero hb wB wS SB hB hS st own
  have hmk := run_make_row' (P := Try.prog) 31 39 (.pointer none) 8 Try.underlying31 info39 rfl .i64 .i64 n (by omega) (by omega)
  have hmm := hint45
  obtain ⟨T, hT⟩ : ∃ T, T = w.heap.size := ⟨_, rfl⟩
  rw [← hT] at F0 ⊢
  have HT := hide hT
  clear hT hb wB wS SB hB hS st own
  go_enter Try.func15, Try.ntmps15
  go_wp2
  rw [← HT.out]
  go_loopw [10] (fun i wr => ∃ (k : Nat) (D : DataW Value), k ≤ n ∧ i = .int .i64 k ∧ Fill W wr S B T n k D f c nd g) (fun i _ => n - (intOf i).toNat)
  case atStart => exact ⟨0, _, Nat.zero_le _, rfl, F0⟩
  case round =>
    obtain ⟨k, D, hk, rfl, F⟩ := hrel
    clear F0 hmk
    by_cases hlt : k < n
    · -- the cells that the round reads
      have lowN : b3 < W.heap.size := h3.low (by omega)
      have hsz := F.bel.size
      have q3 : wr.cell? ⟨b3, o3 + k, none⟩ = some (.string (nd k)) := (F.bel.cell (p := ⟨b3, o3 + k, none⟩) lowN).trans (h3.cell k (by omega))
      have x3 := fun wx => h3.idx wx k (by omega)
      have x2 := fun wx => h2.idx wx k (by omega)
      have x1 := fun wx => h1.idx wx k (by omega)
      have lt3 : b3 < wr.heap.size := by omega
      have hkn := keyS (nl k)
      have hkf := keyS (fl k)
      -- what is known behind the first store into a map
      have nxt : ∀ w2 : World, (wr.alloc (.map #[] 0)).mapTurned w2 wr.heap.size → w2.cell? ⟨b2, o2 + k, none⟩ = some (.int .i64 (c k)) ∧ w2.cell? ⟨b1, o1 + k, none⟩ = some (.string (f k)) ∧ w2.cell? ⟨T, k, none⟩ = some (.pointer none) ∧ w2.frozen? ⟨T, k, none⟩ = false ∧ T < w2.heap.size ∧ b1 < w2.heap.size ∧ b1 ≠ T ∧ b2 < w2.heap.size := by
        intro w2 h
        have M := F.mid h
        have e2 : b2 < W.heap.size := h2.low (by omega)
        have e1 : b1 < W.heap.size := h1.low (by omega)
        have s2 := M.bel.size
        have wT := F.BT
        have wB := F.wB
        refine ⟨(M.bel.cell (p := ⟨b2, o2 + k, none⟩) e2).trans (h2.cell k (by omega)), (M.bel.cell (p := ⟨b1, o1 + k, none⟩) e1).trans (h1.cell k (by omega)), ?_, M.row.frozen k, M.row.lt, by omega, by omega, by omega⟩
        rw [M.row.cell hlt]; simp
      have NEXT := hide nxt
      have hBT : B ≠ T := by have := F.BT; omega
      have HF := hide F
      clear nxt h1 h2 h3 fl nl F hsz
      go_wp2_with (first
        | (at_mapUpdate; refine wpList_mapUpdate_in _ rfl _ _ _ 45 rfl 9 4 law Try.underlying45 anyElem wr.heap.size 0 (DataW.map []) rfl (World.ownsMap_made wr Try.prog 9 anyElem) (by unfold maxLen; omega) _ _ (kl (nd k)) rfl rfl hkn (.held (.bool true)) [] rfl ?_; intro w2 hown2 hturn2; obtain ⟨y2, y1, yT, yF, yl, yb, yn, yb2⟩ := unhide NEXT w2 hturn2; have HO2 := hide hown2; have HT2 := hide hturn2; clear hown2 hturn2)
        | (at_mapUpdate; refine wpList_mapUpdate_in _ rfl _ _ _ 29 rfl 9 39 law Try.underlying29 anyElem B k D rfl ((((unhide HF).mid (unhide HT2)).own.setCell hBT _).alloc _) (by unfold maxLen; omega) _ _ (kl (f k)) rfl rfl hkf _ [] rfl ?_; intro w5 hown5 hturn5))
      go_roundw
      case rel =>
        obtain ⟨D', F'⟩ := (unhide HF).step hlt (unhide HO2) (unhide HT2) hown5 hturn5
        exact ⟨k + 1, D', by omega, by go_num, F'⟩
      case measure => simp [intOf]; omega
    · obtain rfl : n = k := by omega
      go_wp2
      go_ret
      exact ⟨rfl, D, F⟩
end Go.Proofs.Qxb6613483a
