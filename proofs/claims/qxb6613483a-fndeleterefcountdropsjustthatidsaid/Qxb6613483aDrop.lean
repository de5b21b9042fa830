import Derived.Test.Qxb6613483aStored
namespace Go.Proofs.Qxb6613483a
open Go.ChangeShapes Go.WideShapes Go.ChangeAt Go.RowKit
set_option linter.unusedVariables false

set_option maxHeartbeats 1000000 in
theorem distinct18 (w : World) (a1 : Option Addr) (n c1 b1 o1 : Nat) (f : Nat → ByteArray) (a4 : Option Addr) (m c4 b4 o4 : Nat) (g : Nat → ByteArray) (hn : n ≤ 4096) (hm : m ≤ 4096)
    (hf : RowAt 22 w a1 n c1 b1 o1 (fun k => .string (f k))) (hg : RowAt 22 w a4 m c4 b4 o4 (fun k => .string (g k))) :
    Calls Try.prog 18 #[.slice a1 n c1, .slice a4 m c4] w fun e w' => e = .returned (.int .i64 (cnt (lone f n g m) n)) ∧ w = w' := by
  have H28 := hide (fun k => last28 w a1 n c1 b1 o1 f k (by omega) hf)
  have H32 := hide (fun k => in32 w a4 m c4 b4 o4 g k (by omega) hg)
  obtain ⟨hidx, hcell, _⟩ := hf
  clear hg
  go_enter Try.func18, Try.ntmps18
  go_wp2
  go_loop [5, 6] (fun t i => ∃ k : Nat, k ≤ n ∧ i = .int .i64 k ∧ t = .int .i64 (cnt (lone f n g m) k)) (fun _ i => n - (intOf i).toNat)
  case atStart => exact ⟨0, Nat.zero_le _, rfl, rfl⟩
  case round =>
    obtain ⟨k, hk, rfl, rfl⟩ := hrel
    have hle := cnt_le (lone f n g m) k
    by_cases hlt : k < n
    · have hc := hcell k hlt
      have HC := hide (show cnt (lone f n g m) (k + 1) = cnt (lone f n g m) k + (if lone f n g m k then 1 else 0) from rfl)
      have HL := hide (show lone f n g m k = (decide (lastI f n (f k) = (k : Int)) && decide (lastI g m (f k) < 0)) from rfl)
      have Ha := hide (unhide H28 (f k))
      have Hb := hide (unhide H32 (f k))
      clear hcell H28 H32
      generalize cnt (lone f n g m) k = z at hle HC
      generalize lastI f n (f k) = x at HL Ha
      generalize lastI g m (f k) = y at HL Hb
      generalize f k = s at hc Ha Hb
      by_cases e1 : x = (k : Int)
      · have e1' : (x == (k : Int)) = true := by simp [e1]
        by_cases e2 : y < 0
        · have e2' : decide (0 ≤ y) = false := decide_eq_false (by omega)
          have HV : Hid (lone f n g m k = true) := hide (by rw [HL.out]; simp [e1, e2])
          have E1 := hide e1
          clear e1 HL
          go_wp2_with (first | (go_at_call 28; refine (unhide Ha).mono ?_; rintro e w' ⟨rfl, rfl⟩) | (go_at_call 32; refine (unhide Hb).mono ?_; rintro e w' ⟨rfl, rfl⟩))
          go_round
          case rel => exact ⟨k + 1, by omega, by go_num, by rw [HC.out, HV.out]; go_num⟩
          case measure => simp [intOf]; omega
        · have e2' : decide (0 ≤ y) = true := decide_eq_true (by omega)
          have HV : Hid (lone f n g m k = false) := hide (by rw [HL.out]; simp [e2])
          have E1 := hide e1
          clear e1 HL
          go_wp2_with (first | (go_at_call 28; refine (unhide Ha).mono ?_; rintro e w' ⟨rfl, rfl⟩) | (go_at_call 32; refine (unhide Hb).mono ?_; rintro e w' ⟨rfl, rfl⟩))
          go_round
          case rel => exact ⟨k + 1, by omega, by go_num, by rw [HC.out, HV.out]; go_num⟩
          case measure => simp [intOf]; omega
      · have e1' : (x == (k : Int)) = false := by simp [e1]
        have HV : Hid (lone f n g m k = false) := hide (by rw [HL.out]; simp [e1])
        have E1 := hide e1
        clear e1 HL
        go_wp2_with (first | (go_at_call 28; refine (unhide Ha).mono ?_; rintro e w' ⟨rfl, rfl⟩) | (go_at_call 32; refine (unhide Hb).mono ?_; rintro e w' ⟨rfl, rfl⟩))
        go_round
        case rel => exact ⟨k + 1, by omega, by go_num, by rw [HC.out, HV.out]; go_num⟩
        case measure => simp [intOf]; omega
    · obtain rfl : n = k := by omega
      go_wp2
      go_ret
      exact ⟨rfl, rfl⟩

theorem RowAt.drewN {t : TypeId} {w : World} {a : Option Addr} {len cap b off : Nat} {val : Nat → Value} (h : RowAt t w a len cap b off val) (q : Nat) : RowAt t (w.drewN q) a len cap b off val := ⟨h.idx, h.cell, h.low⟩

theorem Held.drewN {w : World} {S B T n : Nat} {D : DataW Value} {a1 : Option Addr} {c1 b1 o1 : Nat} {f : Nat → ByteArray} {a2 : Option Addr} {l2 c2 b2 o2 : Nat} {c : Nat → Int} {a3 : Option Addr} {l3 c3 b3 o3 : Nat} {nd : Nat → ByteArray}
    (H : Held w S B T n D a1 c1 b1 o1 f a2 l2 c2 b2 o2 c a3 l3 c3 b3 o3 nd) (q : Nat) : Held (w.drewN q) S B T n D a1 c1 b1 o1 f a2 l2 c2 b2 o2 c a3 l3 c3 b3 o3 nd :=
  ⟨H.st, H.own, H.ks.drewN q, H.cs.drewN q, H.ns.drewN q, H.ps.drewN q, fun j hj => (H.count j hj).drewN q, H.fl, H.nl, H.n4, H.n2, H.n3⟩

set_option maxHeartbeats 1000000 in
theorem after21 (w : World) (S B T n : Nat) (D : DataW Value) (a1 : Option Addr) (c1 b1 o1 : Nat) (f : Nat → ByteArray) (a2 : Option Addr) (l2 c2 b2 o2 : Nat) (c : Nat → Int) (a3 : Option Addr) (l3 c3 b3 o3 : Nat) (nd : Nat → ByteArray)
    (a4 : Option Addr) (m c4 b4 o4 : Nat) (g : Nat → ByteArray)
    (H : Held w S B T n D a1 c1 b1 o1 f a2 l2 c2 b2 o2 c a3 l3 c3 b3 o3 nd) (hg : RowAt 22 w a4 m c4 b4 o4 (fun k => .string (g k))) (hm : m ≤ 4096) (hD : Spec D f n g m (pv T)) (gl : ∀ k, (g k).size ≤ maxLen) :
    Calls Try.prog 21 #[.pointer (some ⟨S, 0, none⟩), .map (some B), .slice a1 n c1, .slice (some ⟨T, 0, none⟩) n n, .slice a2 l2 c2, .slice a3 l3 c3, .slice a4 m c4] w fun e w' => e = .returned (.bool true) ∧ ∃ q, w' = w.drewN q := by
  have n4 := H.n4
  have H16 := hide (fun q k => stored16 (w.drewN q) S B T n D a1 c1 b1 o1 f a2 l2 c2 b2 o2 c a3 l3 c3 b3 o3 nd a4 m c4 b4 o4 g (f k) (H.drewN q) (hg.drewN q) hm hD (H.fl k))
  have H24 := hide (fun q k => get24 (w.drewN q) S B n D (g k) _ (H.drewN q).st (H.drewN q).own (gl k) (hD.look (g k)))
  have H18 := hide (fun q => distinct18 (w.drewN q) a1 n c1 b1 o1 f a4 m c4 b4 o4 g n4 hm (H.drewN q).ks (hg.drewN q))
  have hn := fun (q : Nat) (ty : TypeId) => (H.drewN q).own.len Try.underlying29 ty
  have HS := hide hD.size
  obtain ⟨hidx, hcell, _⟩ := H.ks
  obtain ⟨gidx, gcell, _⟩ := hg
  clear H hD
  go_enter Try.func21, Try.ntmps21
  go_wp2
  go_loopw [15] (fun i wr => ∃ k q : Nat, k ≤ n ∧ i = .int .i64 k ∧ wr = w.drewN q) (fun i _ => n - (intOf i).toNat)
  case atStart => exact ⟨0, 0, Nat.zero_le _, rfl, rfl⟩
  case round =>
    obtain ⟨k, q, hk, rfl, rfl⟩ := hrel
    by_cases hlt : k < n
    · have hc := hcell k hlt
      have Ha := hide (unhide H16 q k)
      clear hcell gcell gidx hn H18 H24 H16
      generalize f k = s at hc Ha
      go_wp2_with (go_at_call 16; refine (unhide Ha).mono ?_; rintro e w' ⟨rfl, q', rfl⟩)
      go_roundw
      case rel => exact ⟨k + 1, q + q', by omega, by go_num, rfl⟩
      case measure => simp [intOf]; omega
    · clear H16 hcell hidx
      go_wp2
      go_loop [16] (fun i => ∃ k : Nat, k ≤ m ∧ i = .int .i64 k) (fun i => m - (intOf i).toNat)
      case atStart => exact ⟨0, Nat.zero_le _, rfl⟩
      case round =>
        obtain ⟨j, hj, rfl⟩ := hrel
        by_cases hlt2 : j < m
        · have hc := gcell j hlt2
          have hv : val f n g m (pv T) (g j) = .pointer none := by
            have := lastI_mem (f := g) hlt2
            have hl : live f n g m (g j) = false := by simp only [live, Bool.and_eq_false_iff, decide_eq_false_iff_not]; right; omega
            simp [val, hl]
          have Ha0 := unhide H24 q j
          rw [hv] at Ha0
          have Ha := hide Ha0
          clear gcell hn H18 H24 hv Ha0
          generalize g j = s at hc Ha
          go_wp2_with (go_at_call 24; refine (unhide Ha).mono ?_; rintro e w' ⟨rfl, rfl⟩)
          go_round
          case rel => exact ⟨j + 1, by omega, by go_num⟩
          case measure => simp [intOf]; omega
        · have hn' := hn q
          rw [HS.out] at hn'
          have Ha := hide (unhide H18 q)
          clear hn H18 H24 gcell gidx HS
          generalize cnt (lone f n g m) n = z at hn' Ha
          go_wp2_with (go_at_call 18; refine (unhide Ha).mono ?_; rintro e w' ⟨rfl, rfl⟩)
          go_ret
          exact ⟨rfl, _, rfl⟩
end Go.Proofs.Qxb6613483a
