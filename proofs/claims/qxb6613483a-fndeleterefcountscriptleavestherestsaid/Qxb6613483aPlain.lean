import Derived.Maps.OwnSet
namespace Go.Proofs.Qxb6613483a

/-! ### The plain law: no Go program in sight -/
theorem bytes_ext {a b : ByteArray} (h : a.data.toList = b.data.toList) : a = b := by
  cases a; cases b; simp only at h
  congr 1
  exact Array.toList_inj.1 h

theorem beq_bytes (a b : ByteArray) : (a.toList == b.toList) = decide (a = b) := by
  rw [ByteArray.toList_eq, ByteArray.toList_eq, Bool.eq_iff_iff]
  simp only [beq_iff_eq, decide_eq_true_eq]
  exact ⟨bytes_ext, fun h => by rw [h]⟩

/-- The last index below n at which f holds s, or -1. -/
def lastI (f : Nat → ByteArray) : Nat → ByteArray → Int
  | 0, _ => -1
  | n + 1, s => if f n = s then (n : Int) else lastI f n s

theorem lastI_lo (f : Nat → ByteArray) (n : Nat) (s : ByteArray) : -1 ≤ lastI f n s := by
  induction n with
  | zero => exact Int.le_refl _
  | succ n ih => simp only [lastI]; split <;> omega

theorem lastI_hi (f : Nat → ByteArray) (n : Nat) (s : ByteArray) : lastI f n s < (n : Int) := by
  induction n with
  | zero => show (-1 : Int) < 0; omega
  | succ n ih => simp only [lastI]; split <;> omega

theorem lastI_at {f : Nat → ByteArray} {n : Nat} {s : ByteArray} {j : Nat} (h : lastI f n s = (j : Int)) : j < n ∧ f j = s := by
  induction n with
  | zero => simp only [lastI] at h; omega
  | succ n ih =>
    simp only [lastI] at h
    split at h
    · obtain rfl : n = j := by omega
      exact ⟨by omega, by assumption⟩
    · obtain ⟨a, b⟩ := ih h
      exact ⟨by omega, b⟩

theorem lastI_mem {f : Nat → ByteArray} {n j : Nat} (h : j < n) : (j : Int) ≤ lastI f n (f j) := by
  induction n with
  | zero => omega
  | succ n ih =>
    simp only [lastI]
    split
    · omega
    · by_cases e : j = n
      · subst e; exact absurd rfl ‹_›
      · exact ih (by omega)

/-! ### counting -/
def cnt (p : Nat → Bool) : Nat → Nat
  | 0 => 0
  | n + 1 => cnt p n + (if p n then 1 else 0)

theorem cnt_le (p : Nat → Bool) (n : Nat) : cnt p n ≤ n := by
  induction n with
  | zero => exact Nat.le_refl _
  | succ n ih => simp only [cnt]; split <;> omega

theorem cnt_congr {p q : Nat → Bool} {n : Nat} (h : ∀ j, j < n → p j = q j) : cnt p n = cnt q n := by
  induction n with
  | zero => rfl
  | succ n ih => simp only [cnt]; rw [ih fun j hj => h j (by omega), h n (by omega)]

theorem cnt_split (p q : Nat → Bool) (n : Nat) : cnt (fun j => p j && q j) n + cnt (fun j => p j && !q j) n = cnt p n := by
  induction n with
  | zero => rfl
  | succ n ih =>
    simp only [cnt]
    by_cases hp : p n = true <;> by_cases hq : q n = true <;> simp [hp, hq] <;> omega

theorem cnt_none {p : Nat → Bool} {n : Nat} (h : ∀ j, j < n → p j = false) : cnt p n = 0 := by
  induction n with
  | zero => rfl
  | succ n ih => simp only [cnt]; rw [ih fun j hj => h j (by omega), h n (by omega)]; rfl

theorem cnt_one (i : Int) (n : Nat) (h : i < (n : Int)) : cnt (fun j => decide ((j : Int) = i)) n = if 0 ≤ i then 1 else 0 := by
  induction n with
  | zero => rw [if_neg (by omega)]; rfl
  | succ n ih =>
    simp only [cnt]
    by_cases e : (n : Int) = i
    · rw [cnt_none (fun j hj => by simp; omega)]
      simp [e]; omega
    · rw [ih (by omega)]; simp [e]

/-! ### what the map holds -/
/-- s is kept, and not dropped. -/
def live (f : Nat → ByteArray) (n : Nat) (g : Nat → ByteArray) (m : Nat) (s : ByteArray) : Bool := decide (0 ≤ lastI f n s) && decide (lastI g m s < 0)

/-- j is the last index of its id, and the id is not dropped. -/
def lone (f : Nat → ByteArray) (n : Nat) (g : Nat → ByteArray) (m : Nat) (j : Nat) : Bool := decide (lastI f n (f j) = (j : Int)) && decide (lastI g m (f j) < 0)

def kl (s : ByteArray) : Lit := .string s.data.toList

theorem kl_ne {s t : ByteArray} (h : s ≠ t) : kl s ≠ kl t := fun e => h (bytes_ext (by injection e))
theorem kl_key (s : ByteArray) : WideAt.IsKeyLit (kl s) := by
  simp [kl, WideAt.IsKeyLit]

/-- What a look-up of s gives. -/
def val (f : Nat → ByteArray) (n : Nat) (g : Nat → ByteArray) (m : Nat) (p : Nat → Value) (s : ByteArray) : Value :=
  if live f n g m s then p (lastI f n s).toNat else .pointer none

/-- D holds just the ids of f below n that g below m does not name, each with its last pointer. -/
structure Spec (D : DataW Value) (f : Nat → ByteArray) (n : Nat) (g : Nat → ByteArray) (m : Nat) (p : Nat → Value) : Prop where
  tidy : Maps.Tidy D
  look : ∀ s, D.atKey (kl s) (.held (.pointer none)) = .held (val f n g m p s)
  has : ∀ s, Maps.has D (kl s) = live f n g m s
  size : Maps.size D = cnt (lone f n g m) n

theorem Spec.empty (f g : Nat → ByteArray) (p : Nat → Value) : Spec (.map []) f 0 g 0 p := by
  refine ⟨Maps.tidy_empty, fun s => ?_, fun s => ?_, rfl⟩
  · simp [val, live, lastI, DataW.atKey]
  · simp [live, lastI, Maps.has]

theorem lone_same {f g : Nat → ByteArray} {n m : Nat} (s : ByteArray) : cnt (fun j => lone f n g m j && decide (f j = s)) n = if live f n g m s then 1 else 0 := by
  by_cases hg : lastI g m s < 0
  · have e : cnt (fun j => lone f n g m j && decide (f j = s)) n = cnt (fun j => decide ((j : Int) = lastI f n s)) n := by
      refine cnt_congr fun j hj => ?_
      rw [Bool.eq_iff_iff]
      simp only [lone, Bool.and_eq_true, decide_eq_true_eq]
      constructor
      · rintro ⟨⟨a, _⟩, rfl⟩; exact a.symm
      · intro a
        obtain ⟨_, b⟩ := lastI_at a.symm
        subst b
        exact ⟨⟨a.symm, hg⟩, rfl⟩
    rw [e, cnt_one _ _ (lastI_hi f n s)]
    simp [live, hg]
  · rw [cnt_none]
    · simp [live, hg]
    · intro j hj
      simp only [lone, Bool.and_eq_false_iff, decide_eq_false_iff_not]
      by_cases e : f j = s
      · subst e; left; right; exact hg
      · right; exact e

/-- A store of the next id. -/
theorem Spec.put {D : DataW Value} {f g : Nat → ByteArray} {n : Nat} {p : Nat → Value} (h : Spec D f n g 0 p) : Spec (D.put (kl (f n)) (.held (p n))) f (n + 1) g 0 p := by
  refine ⟨h.tidy.put (kl_key _) _, fun s => ?_, fun s => ?_, ?_⟩
  · by_cases e : f n = s
    · subst e
      rw [Maps.atKey_put_same h.tidy.isMap (kl_key _)]
      simp [val, live, lastI]
    · rw [Maps.atKey_put_other (kl_ne (Ne.symm e)), h.look]
      simp [val, live, lastI, e]
  · by_cases e : f n = s
    · subst e
      rw [Maps.has_put_same h.tidy.isMap (kl_key _)]
      simp [live, lastI]
    · rw [Maps.has_put_other (kl_ne (Ne.symm e)), h.has]
      simp [live, lastI, e]
  · rw [Maps.size_put h.tidy, h.has, h.size]
    have e1 : cnt (lone f (n + 1) g 0) (n + 1) = cnt (fun j => lone f n g 0 j && !decide (f j = f n)) n + 1 := by
      simp only [cnt]
      congr 1
      · refine cnt_congr fun j hj => ?_
        rw [Bool.eq_iff_iff]
        simp only [lone, lastI, Bool.and_eq_true, decide_eq_true_eq, Bool.not_eq_true', decide_eq_false_iff_not]
        by_cases e : f n = f j
        · simp [e]; omega
        · simp [e, Ne.symm e]
      · simp [lone, lastI]
    have e2 := cnt_split (lone f n g 0) (fun j => decide (f j = f n)) n
    rw [lone_same] at e2
    rw [e1]
    split <;> simp_all <;> omega

/-- A drop. -/
theorem Spec.del {D : DataW Value} {f g g' : Nat → ByteArray} {n m m' : Nat} {p : Nat → Value} (h : Spec D f n g m p) (s0 : ByteArray) (hg : ∀ s, lastI g' m' s < 0 ↔ s ≠ s0 ∧ lastI g m s < 0) : Spec (D.del (kl s0)) f n g' m' p := by
  refine ⟨h.tidy.del _, fun s => ?_, fun s => ?_, ?_⟩
  · by_cases e : s = s0
    · subst e
      rw [Maps.atKey_del_same]
      simp [val, live, hg]
    · rw [Maps.atKey_del_other (kl_ne e), h.look]
      simp [val, live, hg, e]
  · by_cases e : s = s0
    · subst e
      rw [Maps.has_del_same]
      simp [live, hg]
    · rw [Maps.has_del_other (kl_ne e), h.has]
      simp [live, hg, e]
  · have e1 := Maps.size_del (k := kl s0) h.tidy
    rw [h.has, h.size] at e1
    have e2 := cnt_split (lone f n g m) (fun j => decide (f j = s0)) n
    rw [lone_same] at e2
    have e3 : cnt (lone f n g' m') n = cnt (fun j => lone f n g m j && !decide (f j = s0)) n := by
      refine cnt_congr fun j hj => ?_
      rw [Bool.eq_iff_iff]
      simp only [lone, Bool.and_eq_true, decide_eq_true_eq, Bool.not_eq_true', decide_eq_false_iff_not, hg]
      constructor
      · rintro ⟨a, b, c⟩; exact ⟨⟨a, c⟩, b⟩
      · rintro ⟨⟨a, c⟩, b⟩; exact ⟨a, b, c⟩
    rw [e3]
    omega

theorem Spec.del_next {D : DataW Value} {f g : Nat → ByteArray} {n m : Nat} {p : Nat → Value} (h : Spec D f n g m p) : Spec (D.del (kl (g m))) f n g (m + 1) p :=
  h.del (g m) fun s => by
    simp only [lastI]
    by_cases e : g m = s
    · simp [e]
    · simp [e, Ne.symm e]

theorem Spec.del_again {D : DataW Value} {f g : Nat → ByteArray} {n m j : Nat} {p : Nat → Value} (h : Spec D f n g m p) (hj : j < m) : Spec (D.del (kl (g j))) f n g m p :=
  h.del (g j) fun s => by
    constructor
    · intro a
      refine ⟨fun e => ?_, a⟩
      subst e
      have := lastI_mem (f := g) hj
      omega
    · exact fun a => a.2

end Go.Proofs.Qxb6613483a
