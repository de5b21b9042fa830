import Derived.Test.Qxb6613483aWalks
import Derived.ChangeOld
namespace Go.Proofs.Qxb6613483a
open Go.ChangeShapes Go.WideShapes Go.ChangeAt Go.RowKit
set_option linter.unusedVariables false

theorem own : ownKnob Try.prog.godebug = none := by kernel_rfl
theorem laidOut : laidOutB Try.prog = true := by kernel_rfl

/-- What is told of a slice that came in, its elements of one cell. -/
def IsRow (w : World) (a : Option Addr) (len cap : Nat) (v : Nat → Value) : Prop :=
  (a = none ∧ len = 0 ∧ cap = 0) ∨
  ∃ x, a = some x ∧ len ≤ cap ∧ cap ≤ maxLen ∧ ∀ i, i < len → w.cell? (x.add i) = some (v i)

theorem IsRow.cap {w : World} {a : Option Addr} {len cap : Nat} {v : Nat → Value} (h : IsRow w a len cap v) : len ≤ cap ∧ cap ≤ maxLen := by
  rcases h with ⟨rfl, rfl, rfl⟩ | ⟨x, rfl, hl, hc, _⟩
  · exact ⟨Nat.le_refl _, Nat.zero_le _⟩
  · exact ⟨hl, hc⟩

/-- .. in the walk's form; and so is every shorter slice at the same place. -/
theorem IsRow.at_ {t e : TypeId} {w : World} {a : Option Addr} {len cap : Nat} {v : Nat → Value} (h : IsRow w a len cap v) (hu : Try.prog.underlying t = some (.slice e)) (hE : Try.prog.elem t = e) (hi : (Try.prog.info? e).isSome = true) (hc1 : Try.prog.cellsOf e = 1) :
    ∃ b off, ∀ n, n ≤ len → RowAt t w a n cap b off v := by
  rcases h with ⟨rfl, rfl, rfl⟩ | ⟨x, rfl, hl, hc, hcell⟩
  · exact ⟨0, 0, fun n hn => ⟨fun _ k hk => by omega, fun k hk => by omega, fun h => by omega⟩⟩
  · by_cases h0 : 0 < len
    · obtain ⟨b, off, spot⟩ := x
      have h00 := hcell 0 h0
      have hspot : spot = none := by simpa [Addr.add] using World.cell?_spot h00
      subst hspot
      obtain ⟨i, hi⟩ := Option.isSome_iff_exists.1 hi
      refine ⟨b, off, fun n hn => ⟨fun wx k hk => ?_, fun k hk => ?_, fun _ => ?_⟩⟩
      · rw [run_indexAt_slice (h := by rw [hE]; exact hu), if_pos (by omega), hE, run_sizeOf _ hi, hc1]
        simp [Addr.add, Result.andThen]
      · rw [← add_plain]; exact hcell k (by omega)
      · exact World.block_lt_of_cell? _ _ h00
    · exact ⟨0, 0, fun n hn => ⟨fun _ k hk => by omega, fun k hk => by omega, fun h => by omega⟩⟩

theorem getD_size {ss : List ByteArray} (h : ∀ s ∈ ss, s.size ≤ maxLen) (k : Nat) : (ss.getD k ByteArray.empty).size ≤ maxLen := by
  by_cases hk : k < ss.length
  · rw [List.getD_eq_getElem?_getD, List.getElem?_eq_getElem hk]
    exact h _ (List.getElem_mem hk)
  · rw [List.getD_eq_getElem?_getD, List.getElem?_eq_none (by omega)]
    simp

section
variable {H : Type} {enc : TypeId × Value → H} {W : World} {a : Option Addr} {len cap : Nat} {d : DataW H} {p : List MemPlace}

theorem open_strs (h : DataW.Trod enc Try.prog W 0 (fun _ => true) true 22 (.slice a len cap) d p) : ∃ f : Nat → ByteArray, (∀ k, (f k).size ≤ maxLen) ∧ IsRow W a len cap (fun k => .string (f k)) := by
  obtain ⟨fuel, hf⟩ := h
  rcases open_strings Try.underlying22 Try.underlying9 (by kernel_rfl) hf with ⟨hcs, _⟩ | ⟨x, l, c, zs, hcs, _, hl, hm, hz, _, hcell, hwz⟩
  · simp [Value.cells] at hcs
    obtain ⟨rfl, rfl, rfl⟩ := hcs
    exact ⟨fun _ => ByteArray.empty, fun _ => by simp, .inl ⟨rfl, rfl, rfl⟩⟩
  · simp [Value.cells] at hcs
    obtain ⟨rfl, rfl, rfl⟩ := hcs
    exact ⟨fun k => zs.getD k ByteArray.empty, getD_size hwz, .inr ⟨_, rfl, hl, hm, fun i hi => hcell i (by simp at hz; omega)⟩⟩

theorem open_nums (h : DataW.Trod enc Try.prog W 0 (fun _ => true) true 23 (.slice a len cap) d p) : ∃ c : Nat → Int, IsRow W a len cap (fun k => .int .i64 (c k)) := by
  obtain ⟨fuel, hf⟩ := h
  rcases open_ints Try.underlying23 Try.underlying3 (by kernel_rfl) hf with ⟨hcs, _⟩ | ⟨x, l, c, zs, hcs, _, hl, hm, hz, _, hcell, hwz⟩
  · simp [Value.cells] at hcs
    obtain ⟨rfl, rfl, rfl⟩ := hcs
    exact ⟨fun _ => 0, .inl ⟨rfl, rfl, rfl⟩⟩
  · simp [Value.cells] at hcs
    obtain ⟨rfl, rfl, rfl⟩ := hcs
    exact ⟨fun k => zs.getD k 0, .inr ⟨_, rfl, hl, hm, fun i hi => hcell i (by simp at hz; omega)⟩⟩

theorem places_lt {t : TypeId} {v : Value} (h : DataW.Trod enc Try.prog W 0 (fun _ => true) true t v d p) : ∀ x ∈ p, x.block < W.heap.size := by
  obtain ⟨m, hm⟩ := h; exact DataW.trod_lt m _ _ _ hm
end
end Go.Proofs.Qxb6613483a
