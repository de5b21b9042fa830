import Derived.Test.Qxb6613483aScript
import Derived.Test.Qxb6613483aOpen
namespace Go.Proofs.Qxb6613483a.fnDeleteRefCountScriptLeavesTheRest
open Go.ChangeShapes Go.WideShapes Go.ChangeAt Go.RowKit
set_option linter.unusedVariables false

theorem walk (a1 : Option Addr) (l1 c1 : Nat) (f : Nat → ByteArray) (a2 : Option Addr) (l2 c2 : Nat) (c : Nat → Int) (a3 : Option Addr) (l3 c3 : Nat) (nd : Nat → ByteArray) (a4 : Option Addr) (m c4 : Nat) (g : Nat → ByteArray) (W : World)
    (fl : ∀ k, (f k).size ≤ maxLen) (nl : ∀ k, (nd k).size ≤ maxLen) (gl : ∀ k, (g k).size ≤ maxLen)
    (h1 : IsRow W a1 l1 c1 (fun k => .string (f k))) (h2 : IsRow W a2 l2 c2 (fun k => .int .i64 (c k))) (h3 : IsRow W a3 l3 c3 (fun k => .string (nd k))) (h4 : IsRow W a4 m c4 (fun k => .string (g k))) :
    Calls Try.prog 6 #[.slice a1 l1 c1, .slice a2 l2 c2, .slice a3 l3 c3, .slice a4 m c4] W fun e w' => e = .returned (.bool true) ∧ Below W.heap.size W w' := by
  obtain ⟨b1, o1, r1⟩ := h1.at_ Try.underlying22 (by kernel_rfl) (by kernel_rfl) (by kernel_rfl)
  obtain ⟨b2, o2, r2⟩ := h2.at_ Try.underlying23 (by kernel_rfl) (by kernel_rfl) (by kernel_rfl)
  obtain ⟨b3, o3, r3⟩ := h3.at_ Try.underlying22 (by kernel_rfl) (by kernel_rfl) (by kernel_rfl)
  obtain ⟨b4, o4, r4⟩ := h4.at_ Try.underlying22 (by kernel_rfl) (by kernel_rfl) (by kernel_rfl)
  obtain ⟨x1, y1⟩ := h1.cap
  obtain ⟨x2, y2⟩ := h2.cap
  obtain ⟨x3, y3⟩ := h3.cap
  obtain ⟨x4, y4⟩ := h4.cap
  by_cases hg : l1 ≤ 4096 ∧ l2 ≤ 4096 ∧ l3 ≤ 4096 ∧ m ≤ 4096
  · exact script6 W a1 l1 c1 b1 o1 f a2 l2 c2 b2 o2 c a3 l3 c3 b3 o3 nd a4 m c4 b4 o4 g (min l1 (min l2 l3)) (r1 l1 (Nat.le_refl _)) (r1 _ (by omega)) (r2 l2 (Nat.le_refl _)) (r3 l3 (Nat.le_refl _)) (r4 m (Nat.le_refl _)) hg.1 hg.2.1 hg.2.2.1 hg.2.2.2 x1 rfl fl nl gl
  · exact script6_short W a1 l1 c1 b1 o1 f a2 l2 c2 a3 l3 c3 b3 o3 nd a4 m c4 b4 o4 g (r1 l1 (Nat.le_refl _)) (r3 l3 (Nat.le_refl _)) (r4 m (Nat.le_refl _)) (by omega) (by omega) (by omega) (by omega) fl nl gl (by omega)

set_option maxRecDepth 100000 in
theorem lifted (os : Os) (started : os.Started) (H : Type) (enc : TypeId × Value → H) :
    ReturnsInHanded {} Try.checked os 6 .any (Rows.fnDeleteRefCountScriptLeavesTheRestSpec.pre6 enc Try.prog Try.f6 Rows.fnDeleteRefCountScriptLeavesTheRestRow.domain false) (Rows.fnDeleteRefCountScriptLeavesTheRestSpec.post enc Try.prog Try.f6 false true false false) := by
  refine returnsInHanded_of_change (C := Try.checked) own started (by kernel_rfl) Try.func6
    (ChangeSpec.witness6 (enc := enc) (C := Try.checked) false ⟨#[], #[.slice none 0 0, .slice none 0 0, .slice none 0 0, .slice none 0 0], []⟩ 8 (by kernel_rfl) (by kernel_rfl) (by kernel_rfl) (by kernel_rfl)) ?_
  intro W base args ds gs before hval0 hW hcnd _
  have hval : ∀ (j : Nat) t v, Try.f6.params[j]? = some t → args[j]? = some v → Value.okWide Try.prog W .any base t v := hval0
  have hW' := hW
  obtain ⟨p, q, hA0, hV, rfl, hfz, hnd⟩ := hW
  have hA : DataW.TrodAll enc Try.prog W 0 (fun _ => true) true Try.f6.params.toList args.toList ds p := hA0
  rw [Try.params6] at hA hval
  obtain ⟨v0, vs0, d0, ds0, p0, q0, hargs, rfl, rfl, h0, r0⟩ := trodAll_cons hA
  obtain ⟨v1, vs1, d1, ds1, p1, q1, rfl, rfl, rfl, h1, r1⟩ := trodAll_cons r0
  obtain ⟨v2, vs2, d2, ds2, p2, q2, rfl, rfl, rfl, h2, r2⟩ := trodAll_cons r1
  obtain ⟨v3, vs3, d3, ds3, p3, q3, rfl, rfl, rfl, h3, r3⟩ := trodAll_cons r2
  obtain ⟨rfl, rfl, rfl⟩ := trodAll_nil r3
  obtain rfl : args = #[v0, v1, v2, v3] := by cases args; simp_all
  obtain ⟨rfl, rfl⟩ := trodVars_none hV
  obtain ⟨a0, len0, cap0, rfl⟩ := okWide_slice Try.underlying22 (hval 0 22 v0 rfl rfl)
  obtain ⟨a1, len1, cap1, rfl⟩ := okWide_slice Try.underlying23 (hval 1 23 v1 rfl rfl)
  obtain ⟨a2, len2, cap2, rfl⟩ := okWide_slice Try.underlying22 (hval 2 22 v2 rfl rfl)
  obtain ⟨a3, len3, cap3, rfl⟩ := okWide_slice Try.underlying22 (hval 3 22 v3 rfl rfl)
  obtain ⟨f0, s0, w0⟩ := open_strs h0
  obtain ⟨c1, w1⟩ := open_nums h1
  obtain ⟨f2, s2, w2⟩ := open_strs h2
  obtain ⟨f3, s3, w3⟩ := open_strs h3
  have lt0 := places_lt h0
  have lt1 := places_lt h1
  have lt2 := places_lt h2
  have lt3 := places_lt h3
  clear hA0 hval0
  refine (walk a0 len0 cap0 f0 a1 len1 cap1 c1 a2 len2 cap2 f2 a3 len3 cap3 f3 W s0 s2 s3 w0 w1 w2 w3).mono fun e W' ⟨he, bel⟩ => ?_
  subst he
  exact ⟨_, rfl, _, _, _, [], _, [], hW', trodAll_mk1 (shut_bool Try.underlying4 _), (trodAll_cons_mk (Below.trod laidOut (by kernel_rfl) (of_decide_eq_true (by kernel_rfl)) h0 bel lt0) (trodAll_cons_mk (Below.trod laidOut (by kernel_rfl) (of_decide_eq_true (by kernel_rfl)) h1 bel lt1) (trodAll_cons_mk (Below.trod laidOut (by kernel_rfl) (of_decide_eq_true (by kernel_rfl)) h2 bel lt2) (trodAll_cons_mk (Below.trod laidOut (by kernel_rfl) (of_decide_eq_true (by kernel_rfl)) h3 bel lt3) trodAll_mk0)))), rfl, bel.frame _, fun h => by cases h⟩

theorem over : Rows.fnDeleteRefCountScriptLeavesTheRestRow.holds Try.pinned (OpenSpec.ofChange Rows.fnDeleteRefCountScriptLeavesTheRestSpec) :=
  OpenClaim.holds_of_wide 6 Try.f6 rfl rfl rfl rfl rfl rfl rfl ⟨rfl, rfl, rfl, rfl, rfl⟩ rfl rfl rfl rfl rfl (by kernel_rfl) Try.func6 (by kernel_rfl)
    (of_decide_eq_true (by kernel_rfl)) (by unfold Func.isWrapper; first | (rw [if_pos (by decide +kernel)]; kernel_rfl) | (rw [if_neg (by decide +kernel)]; exact ⟨rfl, rfl⟩))
    (fun os started H enc _ => lifted os started H enc)

/-- THE STATEMENT -/
theorem proved : Rows.FnDeleteRefCountScriptLeavesTheRestSaid := over
#print axioms proved
end Go.Proofs.Qxb6613483a.fnDeleteRefCountScriptLeavesTheRest
