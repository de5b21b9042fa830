import Derived.Test.Qxb6605987aKey
namespace Go.Proofs.Qxb6605987a
open Go.ChangeShapes Go.WideShapes Go.ChangeAt Go.RowKit
set_option linter.unusedVariables false

theorem SRow.congr {w : World} {a : Option Addr} {len cap b off : Nat} {v v' : Nat → Int} (h : SRow w a len cap b off v) (e : ∀ k, k < len → v k = v' k) : SRow w a len cap b off v' :=
  ⟨h.addr, h.nil0, h.lc, fun k hk => by rw [← e k hk]; exact h.cell k hk, h.low⟩

theorem below_box (w : World) (q r : Nat) (o : Obj) : Below w.heap.size w (((w.drewN q).alloc o).drewN r) :=
  ⟨rfl, rfl, rfl, by show w.heap.size ≤ (w.heap.push o).size; simp, fun k hk => Below.heap_alloc (w.drewN q) o k hk⟩

/-- keyOf's answer in a world in which the table lies: n bytes, those of the one text from at on. -/
theorem key_case (w : World) (T Dc C Ch Fs : Nat) (fa : Option Addr) (fl fc bf of_ : Nat) (v1 : Nat → Int) (ua : Option Addr) (ul uc bu ou : Nat) (v2 : Nat → Int) (x y : Nat)
    (h : Tab w T Dc C Ch Fs (.slice fa fl fc) (.slice ua ul uc) x y) (h1 : SRow w fa fl fc bf of_ v1) (h2 : SRow w ua ul uc bu ou v2) (k1 : fl ≤ 262144) (k2 : ul ≤ 262144) (hin : InOne fl ul x y) :
    ∃ (g : Option Addr) (cg bg og : Nat), (∀ q, Calls Try.prog 27 #[.pointer (some ⟨Dc, 0, none⟩), .agg #[.int .u32 x, .int .u32 y]] (w.drewN q) fun e w' => e = .returned (.slice g y cg) ∧ Below w.heap.size w w') ∧ SRow w g y cg bg og (fun k => both fl v1 v2 (x + k)) := by
  have lD : Dc < w.heap.size := World.block_lt_of_cell? _ _ h.d10
  have bel : ∀ q r : Nat, Below w.heap.size w (((w.drewN q).alloc (.cells #[.int .u32 (x : Int), .int .u32 (y : Int)] 46)).drewN r) := fun q r => below_box w q r _
  unfold InOne at hin
  by_cases hx : x < fl
  · obtain ⟨g, hs, hr⟩ := h1.sub x (x + y) (by omega) (by omega)
    rw [show x + y - x = y by omega] at hs hr
    rw [show ((x + y : Nat) : Int) = (x : Int) + (y : Int) by omega] at hs
    refine ⟨g, fc - x, bf, of_ + x, fun q => ?_, hr.congr fun k hk => ?_⟩
    · refine (bytes27a (w.drewN q) Dc fa fl fc x y _ h.d10 lD hx (by omega) k1 hs).mono fun e w' hh => ⟨hh.1, ?_⟩
      obtain ⟨r, hw⟩ := hh.2
      rw [hw]; exact bel q r
    · unfold both; rw [if_pos (by omega)]
  · obtain ⟨g, hs, hr⟩ := h2.sub (x - fl) (x + y - fl) (by omega) (by omega)
    rw [show x + y - fl - (x - fl) = y by omega] at hs hr
    rw [show ((x - fl : Nat) : Int) = (x : Int) - (fl : Int) by omega, show ((x + y - fl : Nat) : Int) = (x : Int) + (y : Int) - (fl : Int) by omega] at hs
    refine ⟨g, uc - (x - fl), bu, ou + (x - fl), fun q => ?_, hr.congr fun k hk => ?_⟩
    · refine (bytes27b (w.drewN q) Dc fa fl fc ua ul uc x y _ h.d10 h.d11 lD (by omega) (by omega) k1 hs).mono fun e w' hh => ⟨hh.1, ?_⟩
      obtain ⟨r, hw⟩ := hh.2
      rw [hw]; exact bel q r
    · unfold both; rw [if_neg (by omega), show x + k - fl = x - fl + k by omega]

set_option maxHeartbeats 1000000 in
theorem main3 (W : World) (fa : Option Addr) (fl fc bf of_ : Nat) (v1 : Nat → Int) (ua : Option Addr) (ul uc bu ou : Nat) (v2 : Nat → Int) (x y : Nat)
    (h1 : SRow W fa fl fc bf of_ v1) (h2 : SRow W ua ul uc bu ou v2) (k1 : fl ≤ 262144) (k2 : ul ≤ 262144) (kx : x ≤ 4294967295) (ky : y ≤ 4294967295) (hin : InOne fl ul x y) :
    Calls Try.prog 3 #[.slice fa fl fc, .slice ua ul uc, .int .u32 x, .int .u32 y] W fun e w' => e = .returned (.bool true) ∧ Below W.heap.size W w' := by
  have hxy : x + y ≤ 1048576 := by unfold InOne at hin; omega
  have H7 := hide (bytes7 W fa fl fc ua ul uc x y (by unfold maxLen; omega) (by unfold maxLen; omega))
  have H8 := hide (span8 W fl ul x y k1 k2 kx ky true (.inl ⟨rfl, hin⟩))
  have H9a := hide (clone9 W fa fl fc bf of_ v1 h1 k1)
  have H9b := hide (fun w hb => clone9 w ua ul uc bu ou v2 (h2.below (W := W) hb) k2)
  have HIN := hide hin
  clear h1 h2 hin
  go_enter Try.func3, Try.ntmps3
  go_wp2_with fail
  refine (unhide H7).mono ?_
  rintro e w' ⟨⟨r, rfl⟩, rfl⟩
  clear H7
  cases r
  · go_wp2
    go_ret
    exact ⟨rfl, Below.refl _ _⟩
  go_wp2_with fail
  refine (unhide H8).mono ?_
  rintro e w' ⟨rfl, rfl⟩
  go_wp2_with fail
  refine (unhide H9a).mono ?_
  rintro e w1 ⟨a1, b1, rfl, hb1, O1⟩
  clear H8 H9a
  have HB1 := hide hb1
  have HO1 := hide O1
  clear hb1 O1
  go_wp2_with fail
  refine (unhide H9b _ (unhide HB1)).mono ?_
  rintro e w2 ⟨a2, b2, rfl, hb2, O2⟩
  clear H9b
  have HB2 := hide hb2
  have HO2 := hide O2
  clear hb2 O2
  -- the two clones in w2
  have HR1 := hide ((unhide HO1).row.below (unhide HB2))
  have HR2 := hide (unhide HO2).row
  have HBW2 := hide ((unhide HB1).trans ((unhide HB2).mono (unhide HB1).size))
  clear HO1 HO2 HB1 HB2
  go_wp2_with fail
  refine (join10 _ _ _ _ _ _ _ _ _ _ _ _ _ (unhide HR1) (unhide HR2) k1 k2).mono ?_
  rintro e w3 ⟨rfl, hb3, R3⟩
  have HQ1 := hide ((unhide HR1).below hb3)
  have HQ2 := hide ((unhide HR2).below hb3)
  have HBW3 := hide ((unhide HBW2).trans (hb3.mono (unhide HBW2).size))
  have HR3 := hide R3
  clear HR1 HR2 HBW2 hb3 R3
  generalize w2.heap.size = J at *
  clear w2 w1
  go_wp2_with fail
  -- ZZtable
  obtain ⟨w4, hw4⟩ : ∃ w4, w4 = (((w3.alloc (Obj.cells #[Value.int IntKind.u32 ↑x] 23)).alloc (Obj.cells #[Value.int IntKind.u32 ↑y] 23)).alloc (Obj.cells #[Value.bool false] 4)) := ⟨_, rfl⟩
  rw [← hw4]
  have hb4 : Below w3.heap.size w3 w4 := by rw [hw4]; exact (((Below.refl _ _).alloc (Nat.le_refl _) _).alloc (by simp) _).alloc (by simp; omega) _
  have s4 : w4.heap.size = w3.heap.size + 1 + 1 + 1 := by rw [hw4]; simp
  have cA : w4.cell? ⟨w3.heap.size, 0, none⟩ = some (.int .u32 (x : Int)) := by
    rw [hw4, World.cell?_alloc_past _ _ _ (by simp; omega), World.cell?_alloc_past _ _ _ (by simp), World.cell?_alloc_at _ _ _ _ rfl]; rfl
  have cN : w4.cell? ⟨w3.heap.size + 1, 0, none⟩ = some (.int .u32 (y : Int)) := by
    rw [hw4, World.cell?_alloc_past _ _ _ (by simp), World.cell?_alloc_at _ _ _ _ (by simp)]; rfl
  have cK : w4.cell? ⟨w3.heap.size + 1 + 1, 0, none⟩ = some (.bool false) := by
    rw [hw4, World.cell?_alloc_at _ _ _ _ (by simp)]; rfl
  refine (table11 w4 a1 fl fl a2 ul ul _ _ _ x y cA cN cK (by omega) (by omega) (by omega)).mono ?_
  rintro e w5 ⟨rfl, hw5⟩
  have Tb := tab_of w4 (.slice a1 fl fl) (.slice a2 ul ul) x y
  have hb5 := tableW_below w4 (.slice a1 fl fl) (.slice a2 ul ul) x y
  rw [← hw5] at Tb hb5
  have hb45 : Below w3.heap.size w3 w5 := hb4.trans (hb5.mono hb4.size)
  clear hw5 hb4 hb5 cA cN cK hw4
  obtain ⟨g, cg, bg, og, hk, hr⟩ := key_case w5 _ _ _ _ _ a1 fl fl b1 0 v1 a2 ul ul b2 0 v2 x y Tb ((unhide HQ1).below hb45) ((unhide HQ2).below hb45) k1 k2 (unhide HIN)
  have HK12 := hide (keyOf12 w5 _ _ _ _ _ _ _ x y _ Tb hk)
  have HR := hide hr
  have HT := hide ((unhide HR3).below hb45)
  have HBW5 := hide ((unhide HBW3).trans (hb45.mono (unhide HBW3).size))
  clear hr hk Tb hb45 HQ1 HQ2 HR3 HBW3 s4
  generalize w4.heap.size + 1 + 1 + 1 + 1 = T at *
  go_wp2_with fail
  refine (unhide HK12).mono ?_
  rintro e w6 ⟨rfl, hb6⟩
  have HBW6 := hide ((unhide HBW5).trans (hb6.mono (unhide HBW5).size))
  have HG := hide ((unhide HR).below hb6)
  have T6 := (unhide HT).below hb6
  clear HK12 HR HT HBW5 hb6
  obtain ⟨t, hs, hr⟩ := T6.sub x (x + y) (by omega) (by have := unhide HIN; unfold InOne at this; omega)
  rw [show x + y - x = y by omega] at hs hr
  rw [show ((x + y : Nat) : Int) = (x : Int) + (y : Int) by omega] at hs
  have HK14 := hide (keyAt14 w6 _ _ _ x y _ hxy hs)
  have H13 := hide (same13 w6 g y cg bg og t _ _ _ _ (by omega) (unhide HG).at_ hr.at_)
  clear hs hr T6 HG
  go_wp2_with fail
  refine (unhide HK14).mono ?_
  rintro e w7 ⟨rfl, rfl⟩
  go_wp2_with fail
  refine (unhide H13).mono ?_
  rintro e w7 ⟨rfl, q, rfl⟩
  go_wp2
  go_ret
  exact ⟨rfl, (unhide HBW6).trans ⟨rfl, rfl, rfl, Nat.le_refl _, fun _ _ => rfl⟩⟩

set_option maxHeartbeats 400000 in
theorem main3_long (W : World) (fa : Option Addr) (fl fc : Nat) (ua : Option Addr) (ul uc : Nat) (x y : Int) (k1 : fl ≤ maxLen) (k2 : ul ≤ maxLen) (hg : 262144 < fl ∨ 262144 < ul) :
    Calls Try.prog 3 #[.slice fa fl fc, .slice ua ul uc, .int .u32 x, .int .u32 y] W fun e w' => e = .returned (.bool true) ∧ Below W.heap.size W w' := by
  have H7 := hide (bytes7 W fa fl fc ua ul uc x y k1 k2)
  unfold maxLen at k1 k2
  by_cases h1 : 262144 < fl
  · go_enter Try.func3, Try.ntmps3
    go_wp2_with (go_at_call 7; refine (unhide H7).mono ?_; rintro e w' ⟨⟨r, rfl⟩, rfl⟩)
    all_goals (go_ret; exact ⟨rfl, Below.refl _ _⟩)
  · have h2 : 262144 < ul := by omega
    go_enter Try.func3, Try.ntmps3
    go_wp2_with (go_at_call 7; refine (unhide H7).mono ?_; rintro e w' ⟨⟨r, rfl⟩, rfl⟩)
    all_goals (go_ret; exact ⟨rfl, Below.refl _ _⟩)

set_option maxHeartbeats 400000 in
theorem main3_out (W : World) (fa : Option Addr) (fl fc : Nat) (ua : Option Addr) (ul uc : Nat) (x y : Nat) (k1 : fl ≤ 262144) (k2 : ul ≤ 262144) (kx : x ≤ 4294967295) (ky : y ≤ 4294967295) (hin : ¬ InOne fl ul x y) :
    Calls Try.prog 3 #[.slice fa fl fc, .slice ua ul uc, .int .u32 x, .int .u32 y] W fun e w' => e = .returned (.bool true) ∧ Below W.heap.size W w' := by
  have H7 := hide (bytes7 W fa fl fc ua ul uc x y (by unfold maxLen; omega) (by unfold maxLen; omega))
  have H8 := hide (span8 W fl ul x y k1 k2 kx ky false (.inr ⟨rfl, hin⟩))
  clear hin
  go_enter Try.func3, Try.ntmps3
  go_wp2_with (first | (go_at_call 7; refine (unhide H7).mono ?_; rintro e w' ⟨⟨r, rfl⟩, rfl⟩) | (go_at_call 8; refine (unhide H8).mono ?_; rintro e w' ⟨rfl, rfl⟩))
  all_goals (go_ret; exact ⟨rfl, Below.refl _ _⟩)
end Go.Proofs.Qxb6605987a
