import Derived.Lib.BitFns
import Derived.Lib.ItoaNum
namespace Go.Proofs.Qxb6608945a

/-! ### The plain law: no Go in sight -/
/-- How many bits n takes. -/
def lg (n : Nat) : Nat := Lib.bitLen n

theorem lg_zero : lg 0 = 0 := Lib.bitLenAux_zero 64

theorem lg_bounds (n : Nat) (h : n < 2 ^ 64) : n < 2 ^ lg n ∧ (n ≠ 0 → 1 ≤ lg n ∧ 2 ^ (lg n - 1) ≤ n) := by
  by_cases h0 : n = 0
  · subst h0; rw [lg_zero]; exact ⟨by decide, fun e => absurd rfl e⟩
  · obtain ⟨a, b, c⟩ := Lib.bitLenAux_bounds 64 n h h0
    exact ⟨c, fun _ => ⟨a, b⟩⟩

theorem lg_le (n k : Nat) (hk : k ≤ 64) (h : n < 2 ^ k) : lg n ≤ k := Lib.bitLen_le n k hk h

theorem lg_eq (n k : Nat) (h : n < 2 ^ 64) (h1 : n < 2 ^ k) (h2 : k = 0 ∨ 2 ^ (k - 1) ≤ n) : lg n = k := by
  obtain ⟨a, b⟩ := lg_bounds n h
  rcases Nat.lt_trichotomy (lg n) k with hl | hl | hl
  · rcases h2 with h2 | h2
    · omega
    · have : 2 ^ lg n ≤ 2 ^ (k - 1) := Nat.pow_le_pow_right (by decide) (by omega)
      omega
  · exact hl
  · have hn : n ≠ 0 := by
      intro e; subst e; rw [lg_zero] at hl; omega
    have := (b hn).2
    have : 2 ^ k ≤ 2 ^ (lg n - 1) := Nat.pow_le_pow_right (by decide) (by omega)
    omega

theorem lg_double (n : Nat) (h : n < 2 ^ 62) : lg (2 * n + 1) = lg n + 1 := by
  unfold lg
  rw [Lib.bitLen_half (2 * n + 1) (by omega) (by omega)]
  rw [show (2 * n + 1) / 2 = n by omega]
  omega

/-- c is the least power of two from 4096 on that holds s. -/
structure P2 (s L : Nat) : Prop where
  lo : 12 ≤ L
  hi : L ≤ 25
  le : s ≤ 2 ^ L
  gt : L = 12 ∨ 2 ^ (L - 1) < s

theorem P2.ex (s : Nat) (h0 : 4096 ≤ s) (h1 : s ≤ 33554432) : ∃ L, P2 s L := by
  obtain ⟨a, b⟩ := lg_bounds (s - 1) (by omega)
  have b := (b (by omega))
  have l := lg_le (s - 1) 25 (by omega) (by omega)
  refine ⟨lg (s - 1), ?_, l, by omega, .inr (by omega)⟩
  rcases Nat.lt_or_ge (lg (s - 1)) 12 with hl | hl
  · have : 2 ^ lg (s - 1) ≤ 2 ^ 11 := Nat.pow_le_pow_right (by decide) (by omega)
    omega
  · exact hl

theorem P2.lg {s L : Nat} (h : P2 s L) (h0 : 4096 ≤ s) (h1 : s ≤ 33554432) : lg (s - 1) = L := by
  obtain ⟨a, b, c, d⟩ := h
  refine lg_eq _ _ (by omega) (by omega) (.inr ?_)
  rcases d with d | d
  · subst d; show 2048 ≤ s - 1; omega
  · omega

theorem pow25 {L : Nat} (h : L ≤ 25) : 2 ^ L ≤ 33554432 := Nat.pow_le_pow_right (by decide) h
theorem pow12 {L : Nat} (h : 12 ≤ L) : 4096 ≤ 2 ^ L := Nat.pow_le_pow_right (n := 2) (i := 12) (by decide) h
theorem powS {L : Nat} (h : 12 ≤ L) : 2 ^ L = 2 * 2 ^ (L - 1) := by
  obtain ⟨m, rfl⟩ : ∃ m, L = m + 1 := ⟨L - 1, by omega⟩
  rw [Nat.pow_succ]; simp; omega

theorem P2.self {s L : Nat} (h : P2 s L) : P2 (2 ^ L) L := ⟨h.lo, h.hi, Nat.le_refl _, by
  have := powS h.lo; have := pow12 h.lo; right; omega⟩

theorem P2.mono {s t L M : Nat} (h : P2 s L) (k : P2 t M) (hst : s ≤ t) : 2 ^ L ≤ 2 ^ M := by
  rcases Nat.lt_or_ge M L with hl | hl
  · have hp : 2 ^ M ≤ 2 ^ (L - 1) := Nat.pow_le_pow_right (by decide) (by omega)
    have := k.le; have := k.lo
    rcases h.gt with g | g <;> omega
  · exact Nat.pow_le_pow_right (by decide) hl

theorem P2.tight {s L : Nat} (h : P2 s L) (h0 : 4096 ≤ s) : 2 ^ L < 2 * s := by
  have := powS h.lo
  rcases h.gt with g | g
  · subst g; show 4096 < 2 * s; omega
  · omega

end Go.Proofs.Qxb6608945a
