import Derived.Test.Qxb6613483aWalks
namespace Go.Proofs.Qxb6613483a
open Go.ChangeShapes Go.WideShapes Go.ChangeAt Go.RowKit
open Go.Maps (Keyed)
open Go.ChangeMaps Go.MapKept Go.WideMaps Go.WideElems
set_option linter.unusedVariables false

/-- An element of a map, as it lies. -/
def anyElem (v : Value) : Option (DataW Value × List MemPlace) := some (.held v, [])

theorem law : Keyed Try.prog 9 := Go.Maps.string_keyed Try.underlying9
theorem keyS {s : ByteArray} (h : s.size ≤ maxLen) : keyOf Try.prog 9 (.string s) = some (kl s) := keyOf_string_mk Try.underlying9 h
theorem zero39 (w : World) : (zeroValue 39).run Try.prog w = .ok (.pointer none) w := by kernel_rfl
theorem zero4 (w : World) : (zeroValue 4).run Try.prog w = .ok (.bool false) w := by kernel_rfl

/-- A look-up in the map of counts. -/
theorem look29 {w : World} {B n : Nat} {D : DataW Value} (hown : w.ownsMap Try.prog 9 anyElem B n D) {s : ByteArray} (hs : s.size ≤ maxLen) {v : Value} (hv : D.atKey (kl s) (.held (.pointer none)) = .held v) :
    (Instr.lookup 29 (.map (some B)) (.string s) false).run Try.prog w = .ok v w := by
  obtain ⟨x, ps, hrun, hx⟩ := hown.lookup law Try.underlying29 (zero39 w) (zd := .held (.pointer none)) (zp := []) rfl (keyS hs)
  rw [hv] at hx
  simp only [anyElem, Option.some.injEq, Prod.mk.injEq, DataW.held.injEq] at hx
  rw [hrun, hx.1]

/-- A look-up in a map of nodes. -/
theorem look45 {w : World} {B n : Nat} {D : DataW Value} (hown : w.ownsMap Try.prog 9 anyElem B n D) {s : ByteArray} (hs : s.size ≤ maxLen) {v : Value} (hv : D.atKey (kl s) (.held (.bool false)) = .held v) :
    (Instr.lookup 45 (.map (some B)) (.string s) false).run Try.prog w = .ok v w := by
  obtain ⟨x, ps, hrun, hx⟩ := hown.lookup law Try.underlying45 (zero4 w) (zd := .held (.bool false)) (zp := []) rfl (keyS hs)
  rw [hv] at hx
  simp only [anyElem, Option.some.injEq, Prod.mk.injEq, DataW.held.injEq] at hx
  rw [hrun, hx.1]

set_option maxHeartbeats 400000 in
/-- GetRefCount. -/
theorem get24 (w : World) (S B n : Nat) (D : DataW Value) (s : ByteArray) (v : Value) (hS : w.cell? ⟨S, 0, none⟩ = some (.map (some B))) (hown : w.ownsMap Try.prog 9 anyElem B n D) (hs : s.size ≤ maxLen) (hv : D.atKey (kl s) (.held (.pointer none)) = .held v) :
    Calls Try.prog 24 #[.pointer (some ⟨S, 0, none⟩), .string s] w fun e w' => e = .returned v ∧ w = w' := by
  have hl := look29 hown hs hv
  clear hown hv hs
  go_enter Try.func24, Try.ntmps24
  go_wp2
  go_ret
  exact ⟨rfl, rfl⟩

set_option maxHeartbeats 400000 in
/-- DeleteRefCount. -/
theorem del20 (w : World) (S B n : Nat) (D : DataW Value) (s : ByteArray) (hS : w.cell? ⟨S, 0, none⟩ = some (.map (some B))) (hown : w.ownsMap Try.prog 9 anyElem B n D) (hs : s.size ≤ maxLen) :
    Calls Try.prog 20 #[.pointer (some ⟨S, 0, none⟩), .string s] w fun e w' => e = .returned (.tuple #[]) ∧ w'.ownsMap Try.prog 9 anyElem B n (D.del (kl s)) ∧ w.mapTurned w' B := by
  have hk := keyS hs
  go_enter Try.func20, Try.ntmps20
  go_wp2_with (at_delete; refine wpList_delete_own _ rfl _ _ 29 9 rfl 39 law Try.underlying29 anyElem B n D rfl hown _ _ rfl hk ?_; intro w1 hown1 hturn1)
  go_end0
  exact ⟨rfl, hown1, hturn1⟩

/-- What zzIntact asks of a count. -/
structure Count (w : World) (q m : Nat) (c : Int) (nd : ByteArray) : Prop where
  cnt : w.cell? ⟨q, 0, none⟩ = some (.int .i64 c)
  nds : w.cell? ⟨q, 1, none⟩ = some (.map (some m))
  own : w.ownsMap Try.prog 9 anyElem m 1 ((DataW.map []).put (kl nd) (.held (.bool true)))

set_option maxHeartbeats 400000 in
theorem intact30 (w : World) (q m : Nat) (c : Int) (nd : ByteArray) (h : Count w q m c nd) (hs : nd.size ≤ maxLen) :
    Calls Try.prog 30 #[.pointer (some ⟨q, 0, none⟩), .int .i64 c, .string nd] w fun e w' => e = .returned (.bool true) ∧ w = w' := by
  obtain ⟨h1, h2, h3⟩ := h
  have hl := look45 h3 hs (v := .bool true) (Maps.atKey_put_same ⟨[], rfl⟩ (kl_key nd) _ _)
  have hn := fun ty => h3.len (ty := ty) Try.underlying45
  have e1 : Maps.size ((DataW.map [] : DataW Value).put (kl nd) (.held (.bool true))) = 1 := by
    rw [Maps.size_put Maps.tidy_empty]; rfl
  rw [e1] at hn
  clear h3 e1 hs
  go_enter Try.func30, Try.ntmps30
  go_wp2
  go_ret
  exact ⟨rfl, rfl⟩
end Go.Proofs.Qxb6613483a
