import Derived.Test.Qxb6613483aState
namespace Go.Proofs.Qxb6613483a
open Go.ChangeShapes Go.WideShapes Go.ChangeAt Go.RowKit
set_option linter.unusedVariables false

theorem info47 : ∃ j, Try.prog.info? 47 = some j := Option.isSome_iff_exists.1 (by kernel_rfl)

theorem Count.drewN {w : World} {q m : Nat} {c : Int} {nd : ByteArray} (h : Count w q m c nd) (n : Nat) : Count (w.drewN n) q m c nd := ⟨h.cnt, h.nds, h.own⟩

/-- The pointer kept at index j. -/
def pv (T j : Nat) : Value := .pointer (some ⟨T + 2 + 2 * j, 0, none⟩)

/-- What the storage's checks ask of the world. -/
structure Held (w : World) (S B T n : Nat) (D : DataW Value) (a1 : Option Addr) (c1 b1 o1 : Nat) (f : Nat → ByteArray) (a2 : Option Addr) (l2 c2 b2 o2 : Nat) (c : Nat → Int) (a3 : Option Addr) (l3 c3 b3 o3 : Nat) (nd : Nat → ByteArray) : Prop where
  st : w.cell? ⟨S, 0, none⟩ = some (.map (some B))
  own : w.ownsMap Try.prog 9 anyElem B n D
  ks : RowAt 22 w a1 n c1 b1 o1 (fun k => .string (f k))
  cs : RowAt 23 w a2 l2 c2 b2 o2 (fun k => .int .i64 (c k))
  ns : RowAt 22 w a3 l3 c3 b3 o3 (fun k => .string (nd k))
  ps : RowAt 31 w (some ⟨T, 0, none⟩) n n T 0 (pv T)
  count : ∀ j, j < n → Count w (T + 2 + 2 * j) (T + 1 + 2 * j) (c j) (nd j)
  fl : ∀ k, (f k).size ≤ maxLen
  nl : ∀ k, (nd k).size ≤ maxLen
  n4 : n ≤ 4096
  n2 : n ≤ l2
  n3 : n ≤ l3

set_option maxHeartbeats 1000000 in
theorem stored16 (w : World) (S B T n : Nat) (D : DataW Value) (a1 : Option Addr) (c1 b1 o1 : Nat) (f : Nat → ByteArray) (a2 : Option Addr) (l2 c2 b2 o2 : Nat) (c : Nat → Int) (a3 : Option Addr) (l3 c3 b3 o3 : Nat) (nd : Nat → ByteArray)
    (a4 : Option Addr) (m c4 b4 o4 : Nat) (g : Nat → ByteArray) (k : ByteArray)
    (H : Held w S B T n D a1 c1 b1 o1 f a2 l2 c2 b2 o2 c a3 l3 c3 b3 o3 nd) (hg : RowAt 22 w a4 m c4 b4 o4 (fun k => .string (g k))) (hm : m ≤ 4096) (hD : Spec D f n g m (pv T)) (hk : k.size ≤ maxLen) :
    Calls Try.prog 16 #[.pointer (some ⟨S, 0, none⟩), .slice a1 n c1, .slice (some ⟨T, 0, none⟩) n n, .slice a2 l2 c2, .slice a3 l3 c3, .slice a4 m c4, .string k] w fun e w' => e = .returned (.bool true) ∧ ∃ q, w' = w.drewN q := by
  have n4 := H.n4
  have hlook := hD.look k
  have H28 := hide (last28 w a1 n c1 b1 o1 f k (by omega) H.ks)
  have H32 := hide (in32 w a4 m c4 b4 o4 g k (by omega) hg)
  by_cases h1 : lastI f n k < 0
  · have hv : val f n g m (pv T) k = .pointer none := by simp [val, live]; omega
    rw [hv] at hlook
    have H24 := hide (get24 w S B n D k _ H.st H.own hk hlook)
    clear hlook hv hD H hg
    generalize lastI f n k = i at h1 H28
    go_enter Try.func16, Try.ntmps16
    go_wp2_with (first | (go_at_call 24; refine (unhide H24).mono ?_; rintro e w' ⟨rfl, rfl⟩) | (go_at_call 28; refine (unhide H28).mono ?_; rintro e w' ⟨rfl, rfl⟩) | (go_at_call 32; refine (unhide H32).mono ?_; rintro e w' ⟨rfl, rfl⟩))
    go_ret
    exact ⟨rfl, 0, rfl⟩
  · obtain ⟨j, hj⟩ := Int.eq_ofNat_of_zero_le (show 0 ≤ lastI f n k by omega)
    obtain ⟨hjn, hfj⟩ := lastI_at hj
    by_cases h2 : lastI g m k < 0
    · have hv : val f n g m (pv T) k = pv T j := by simp [val, live, hj, h2]
      rw [hv] at hlook
      have H24 := hide (get24 w S B n D k _ H.st H.own hk hlook)
      have hdf : decide (0 ≤ lastI g m k) = false := decide_eq_false (by omega)
      rw [hdf] at H32
      rw [hj] at H28
      have H30 := hide (fun nq => (intact30 (w.drewN nq) _ _ _ _ ((H.count j hjn).drewN nq) (H.nl j)).mono fun e w' he => (⟨he.1, he.2.symm⟩ : e = .returned (.bool true) ∧ w' = w.drewN nq))
      obtain ⟨ji, hji⟩ := info47
      have heql := fun wx ad => run_eql_ptr_same (P := Try.prog) wx ad Try.underlying39 hji
      have hn2 := H.n2
      have hn3 := H.n3
      have y1 := H.ps.cell j hjn
      rw [Nat.zero_add] at y1
      have x2 := fun wx => H.cs.idx wx j (by omega)
      have y2 := H.cs.cell j (by omega)
      have x3 := fun wx => H.ns.idx wx j (by omega)
      have y3 := H.ns.cell j (by omega)
      unfold pv at H24 y1
      clear hlook hv hD H hg hj hdf hji
      go_enter Try.func16, Try.ntmps16
      go_wp2_with (first | (go_at_call 24; refine (unhide H24).mono ?_; rintro e w' ⟨rfl, rfl⟩) | (go_at_call 28; refine (unhide H28).mono ?_; rintro e w' ⟨rfl, rfl⟩) | (go_at_call 32; refine (unhide H32).mono ?_; rintro e w' ⟨rfl, rfl⟩))
      go_quiet ((go_at_call 30; exact Calls.quiet_of_same (unhide H30 _)))
      go_wp2
      go_ret
      exact ⟨rfl, _, rfl⟩
    · have hv : val f n g m (pv T) k = .pointer none := by simp [val, live, hj]; omega
      rw [hv] at hlook
      have H24 := hide (get24 w S B n D k _ H.st H.own hk hlook)
      have hdt : decide (0 ≤ lastI g m k) = true := decide_eq_true (by omega)
      rw [hdt] at H32
      rw [hj] at H28
      clear hlook hv hD H hg hj hdt
      go_enter Try.func16, Try.ntmps16
      go_wp2_with (first | (go_at_call 24; refine (unhide H24).mono ?_; rintro e w' ⟨rfl, rfl⟩) | (go_at_call 28; refine (unhide H28).mono ?_; rintro e w' ⟨rfl, rfl⟩) | (go_at_call 32; refine (unhide H32).mono ?_; rintro e w' ⟨rfl, rfl⟩))
      go_ret
      exact ⟨rfl, 0, rfl⟩
end Go.Proofs.Qxb6613483a
