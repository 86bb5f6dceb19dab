import Derived.Test.Qxb6613147aProg
import Derived.Test.Qxb6613147aBits
import Derived.WalkLawsBesides
import Derived.WalkSpells
import Derived.Deep.DeepCutAuto
namespace Go.Proofs.Qxb6613147a
open Go.RowKit
set_option linter.unusedVariables false

theorem nsec_any (t : Nat) (N : Nat) (w : World) (hN : N < 1000000000) (h0 : w.cell? ⟨t, 0, none⟩ = some (.int .u64 (N : Int))) :
    Calls Try.prog 25 #[.pointer (some ⟨t, 0, none⟩)] w fun e w' => e = .returned (.int .i32 (N : Int)) ∧ w = w' := by
  have hm := and_mask N hN
  go_enter Try.func25, Try.ntmps25
  go_wp2
  go_ret
  exact ⟨rfl, rfl⟩

theorem sec_any (t : Nat) (N : Nat) (S : Int) (w : World) (hN : N < 1000000000) (h0 : w.cell? ⟨t, 0, none⟩ = some (.int .u64 (N : Int))) (h1 : w.cell? ⟨t, 1, none⟩ = some (.int .i64 S)) :
    Calls Try.prog 28 #[.pointer (some ⟨t, 0, none⟩)] w fun e w' => e = .returned (.int .i64 S) ∧ w = w' := by
  have hm := and_mono N hN
  go_enter Try.func28, Try.ntmps28
  go_wp2
  go_ret
  exact ⟨rfl, rfl⟩

theorem addSec_any (t : Nat) (N : Nat) (d : Int) (w : World) (hN : N < 1000000000) (h0 : w.cell? ⟨t, 0, none⟩ = some (.int .u64 (N : Int))) (h1 : w.cell? ⟨t, 1, none⟩ = some (.int .i64 0)) (f1 : w.frozen? ⟨t, 1, none⟩ = false)
    (hd0 : -9223372036854775808 ≤ d) (hd1 : d ≤ 9223372036854775807) :
    Calls Try.prog 26 #[.pointer (some ⟨t, 0, none⟩), .int .i64 d] w fun e w' => e = .returned (.tuple #[]) ∧ w' = w.setCell ⟨t, 1, none⟩ (.int .i64 d) := by
  have hm := and_mono N hN
  go_enter Try.func26, Try.ntmps26
  go_wp2
  go_end0
  exact ⟨rfl, rfl⟩

theorem wrap_u64N (N : Nat) (h : N < 1000000000) : IntKind.u64.wrap (N : Int) = (N : Int) := by rw [IntKind.wrap_u64]; omega

set_option maxRecDepth 100000 in
set_option maxHeartbeats 1600000 in
theorem add_any (ns : Int) (w : World) (h0 : -9223372036854775808 ≤ ns) (h1 : ns ≤ 9223372036854775807) :
    Calls Try.prog 21 #[.agg #[.int .u64 0, .int .i64 0, .pointer none], .int .i64 ns] w fun e w' => e = .returned (.agg #[.int .u64 ((ns % 1000000000).toNat : Int), .int .i64 (ns / 1000000000), .pointer none]) ∧ Below w.heap.size w w' := by
  obtain ⟨Q, hQ⟩ : ∃ Q, Q = ns.tdiv 1000000000 := ⟨_, rfl⟩
  obtain ⟨R, hR⟩ : ∃ R, R = ns.tmod 1000000000 := ⟨_, rfl⟩
  have hQR : ns = 1000000000 * Q + R := by rw [hQ, hR]; exact (Int.mul_tdiv_add_tmod ns 1000000000).symm
  have hR1 : R < 1000000000 := by rw [hR]; have := Int.tmod_lt_of_pos ns (show (0 : Int) < 1000000000 by omega); exact this
  have hR0 : -1000000000 < R := by
    rw [hR]
    have h := Int.tmod_lt_of_pos (-ns) (show (0 : Int) < 1000000000 by omega)
    rw [Int.neg_tmod] at h
    omega
  have hs : (0 ≤ ns → 0 ≤ R) ∧ (ns ≤ 0 → R ≤ 0) := by
    refine ⟨fun h => ?_, fun h => ?_⟩
    · rw [hR]; exact Int.tmod_nonneg _ h
    · rw [hR]
      have h2 := Int.tmod_nonneg (a := -ns) 1000000000 (by omega)
      rw [Int.neg_tmod] at h2
      omega
  have hq1 : -9223372037 ≤ Q := by omega
  have hq2 : Q ≤ 9223372037 := by omega
  obtain ⟨N, hN⟩ : ∃ N : Nat, (N : Int) = if R < 0 then R + 1000000000 else R := by
    by_cases h : R < 0
    · exact ⟨(R + 1000000000).toNat, by rw [if_pos h]; omega⟩
    · exact ⟨R.toNat, by rw [if_neg h]; omega⟩
  obtain ⟨q, hq⟩ : ∃ q : Int, q = if R < 0 then Q - 1 else Q := ⟨_, rfl⟩
  have hN1 : N < 1000000000 := by by_cases h : R < 0 <;> simp only [h, if_true, if_false] at hN <;> omega
  have em : ns % 1000000000 = (N : Int) := by by_cases h : R < 0 <;> simp only [h, if_true, if_false] at hN <;> omega
  have ed : ns / 1000000000 = q := by by_cases h : R < 0 <;> simp only [h, if_true, if_false] at hq <;> omega
  rw [ed, em, Int.toNat_natCast]
  have hqb : -9223372038 ≤ q ∧ q ≤ 9223372037 := by by_cases h : R < 0 <;> simp only [h, if_true, if_false] at hq <;> omega
  have HQ : Hid (q = if R < 0 then Q - 1 else Q) := hq
  have HN : Hid ((N : Int) = if R < 0 then R + 1000000000 else R) := hN
  have HN1 : Hid (N < 1000000000) := hN1
  have HQB : Hid (-9223372038 ≤ q ∧ q ≤ 9223372037) := hqb
  have td : ns.tdiv 1000000000 = Q := hQ.symm
  have tm : ns.tmod 1000000000 = R := hR.symm
  clear hq hN hN1 hqb em ed hs hQR hQ hR
  have an := andNot_zero
  go_enter Try.func21, Try.ntmps21
  go_wp2_with fail
  refine (nsec_any w.heap.size 0 _ (by omega) (by simp [go_sem])).mono ?_
  rintro e w' ⟨rfl, rfl⟩
  go_upto_if 16 with fail
  clear td tm
  obtain ⟨W, hW⟩ : ∃ W, W = ((w.alloc (Obj.cells #[.int .u64 0, .int .i64 0, .pointer none] 40)).alloc (Obj.cells #[.int .u64 0, .int .i64 0, .pointer none] 40)) := ⟨_, rfl⟩
  rw [← hW]
  go_cut [5, 6] (fun s5 s6 wx => s5 = .int .i64 q ∧ s6 = .int .i32 (N : Int) ∧ W = wx)
  case first =>
    have c1 : decide ((1000000000 : Int) ≤ R) = false := decide_eq_false (by omega)
    by_cases h : R < 0
    · have c2 : decide (R < 0) = true := decide_eq_true h
      refine wp_cond_false (congrArg Value.bool c1) ?_
      go_upto_if 22 with fail
      refine wp_cond_true rfl ?_
      go_wp2_with fail
      go_meet
      exact ⟨by rw [HQ.out, if_pos (by omega)], by rw [HN.out, if_pos (by omega)], hW⟩
    · have c2 : decide (R < 0) = false := decide_eq_false h
      refine wp_cond_false (congrArg Value.bool c1) ?_
      go_upto_if 22 with fail
      refine wp_cond_false rfl ?_
      go_wp2_with fail
      go_meet
      exact ⟨by rw [HQ.out, if_neg (by omega)], by rw [HN.out, if_neg (by omega)], hW⟩
  case rest =>
    obtain ⟨rfl, rfl, rfl⟩ := hcut
    clear hR0 hR1 hq1 hq2 HQ HN
    have or0 := or_zero N HN1.out
    have wN := wrap_u64N N HN1.out
    have mo := and_mono N HN1.out
    subst hW
    go_wp2_with fail
    refine (addSec_any w.heap.size N q _ HN1.out (by simp [go_sem]) (by simp [go_sem]) (by simp [go_sem]) (by have := HQB.out; omega) (by have := HQB.out; omega)).mono ?_
    rintro e w' ⟨rfl, rfl⟩
    go_wp2_with fail
    refine bodyPost_ret (v := .agg #[.int .u64 (N : Int), .int .i64 q, .pointer none]) (by simp [results, Try.results21, go_sem]) rfl ?_
    exact ⟨rfl, ((Below.refl _ _).alloc (Nat.le_refl _) _).alloc (by simp) _⟩

/-- the Time of a count of nanoseconds since the zero Time -/
def tN (ns : Int) : Nat := (ns % 1000000000).toNat
def tS (ns : Int) : Int := ns / 1000000000
theorem tN_lt (ns : Int) : tN ns < 1000000000 := by unfold tN; omega
theorem t_order (a b : Int) : a < b ↔ (tS a < tS b ∨ (tS a = tS b ∧ tN a < tN b)) := by unfold tN tS; omega

set_option maxRecDepth 100000 in
theorem at_any (ns : Int) (w : World) (h0 : -9223372036854775808 ≤ ns) (h1 : ns ≤ 9223372036854775807) :
    Calls Try.prog 17 #[.int .i64 ns] w fun e w' => e = .returned (.agg #[.int .u64 (tN ns : Int), .int .i64 (tS ns), .pointer none]) ∧ Below w.heap.size w w' := by
  have ha := fun w => add_any ns w h0 h1
  have HA : Hid (∀ w, Calls Try.prog 21 #[.agg #[.int .u64 0, .int .i64 0, .pointer none], .int .i64 ns] w fun e w' => e = .returned (.agg #[.int .u64 (tN ns : Int), .int .i64 (tS ns), .pointer none]) ∧ Below w.heap.size w w') := ha
  clear ha
  obtain ⟨W, hW⟩ : ∃ W, W = w.alloc (Obj.cells #[.int .u64 0, .int .i64 0, .pointer none] 40) := ⟨_, rfl⟩
  have hWb : Below w.heap.size w W := by subst hW; exact (Below.refl _ _).alloc (Nat.le_refl _) _
  have hWs : w.heap.size < W.heap.size := by subst hW; simp
  have q0 : W.cell? ⟨w.heap.size, 0, none⟩ = some (.int .u64 0) := by subst hW; simp [go_sem]
  have q1 : W.cell? ⟨w.heap.size, 1, none⟩ = some (.int .i64 0) := by subst hW; simp [go_sem]
  have q2 : W.cell? ⟨w.heap.size, 2, none⟩ = some (.pointer none) := by subst hW; simp [go_sem]
  have f0 : W.frozen? ⟨w.heap.size, 0, none⟩ = false := by subst hW; simp [go_sem]
  have f1 : W.frozen? ⟨w.heap.size, 1, none⟩ = false := by subst hW; simp [go_sem]
  have f2 : W.frozen? ⟨w.heap.size, 2, none⟩ = false := by subst hW; simp [go_sem]
  go_enter Try.func17, Try.ntmps17
  go_wp2_with fail
  rw [← hW]
  clear hW
  refine (HA.out W).mono ?_
  rintro e w' ⟨rfl, hb⟩
  have d0 := (hb.cell (p := ⟨w.heap.size, 0, none⟩) hWs).trans q0
  have d1 := (hb.cell (p := ⟨w.heap.size, 1, none⟩) hWs).trans q1
  have d2 := (hb.cell (p := ⟨w.heap.size, 2, none⟩) hWs).trans q2
  have e0 := (hb.frozen (p := ⟨w.heap.size, 0, none⟩) hWs).trans f0
  have e1 := (hb.frozen (p := ⟨w.heap.size, 1, none⟩) hWs).trans f1
  have e2 := (hb.frozen (p := ⟨w.heap.size, 2, none⟩) hWs).trans f2
  go_wp2_with fail
  refine bodyPost_ret (v := .agg #[.int .u64 (tN ns : Int), .int .i64 (tS ns), .pointer none]) (by simp [results, Try.results17, go_sem, d0, d1, d2]) rfl ?_
  exact ⟨rfl, (((hWb.trans (hb.mono hWb.size)).setCell (Nat.le_refl _) _).setCell (Nat.le_refl _) _).setCell (Nat.le_refl _) _⟩

set_option maxRecDepth 100000 in
set_option maxHeartbeats 800000 in
theorem before_any (a b : Int) (w : World) :
    Calls Try.prog 22 #[.agg #[.int .u64 (tN a : Int), .int .i64 (tS a), .pointer none], .agg #[.int .u64 (tN b : Int), .int .i64 (tS b), .pointer none]] w fun e w' => e = .returned (.bool (decide (a < b))) ∧ Below w.heap.size w w' := by
  have ho := t_order a b
  have hN := tN_lt a
  have hM := tN_lt b
  generalize tN a = N at *
  generalize tN b = M at *
  generalize tS a = S at *
  generalize tS b = T at *
  have aa := and_and N M hN hM
  have HNM : Hid (N < 1000000000 ∧ M < 1000000000) := ⟨hN, hM⟩
  have HO : Hid (a < b ↔ (S < T ∨ (S = T ∧ N < M))) := ho
  clear hN hM ho
  obtain ⟨W, hW⟩ : ∃ W, W = (w.alloc (Obj.cells #[.int .u64 (N : Int), .int .i64 S, .pointer none] 40)).alloc (Obj.cells #[.int .u64 (M : Int), .int .i64 T, .pointer none] 40) := ⟨_, rfl⟩
  have hWb : Below w.heap.size w W := by subst hW; exact ((Below.refl _ _).alloc (Nat.le_refl _) _).alloc (by simp) _
  have q0 : W.cell? ⟨w.heap.size, 0, none⟩ = some (.int .u64 (N : Int)) := by subst hW; simp [go_sem]
  have q1 : W.cell? ⟨w.heap.size, 1, none⟩ = some (.int .i64 S) := by subst hW; simp [go_sem]
  have p0 : W.cell? ⟨w.heap.size + 1, 0, none⟩ = some (.int .u64 (M : Int)) := by subst hW; simp [go_sem]
  have p1 : W.cell? ⟨w.heap.size + 1, 1, none⟩ = some (.int .i64 T) := by subst hW; simp [go_sem]
  go_enter Try.func22, Try.ntmps22
  go_upto_region 1 with fail
  rw [← hW]
  clear hW
  go_wp2_with fail
  refine (sec_any w.heap.size N S W HNM.out.1 q0 q1).mono ?_
  rintro e w' ⟨rfl, rfl⟩
  go_wp2_with fail
  refine (sec_any (w.heap.size + 1) M T W HNM.out.2 p0 p1).mono ?_
  rintro e w' ⟨rfl, rfl⟩
  by_cases c1 : S < T
  · have HR : Hid (decide (a < b) = true) := decide_eq_true (HO.out.2 (.inl c1))
    go_wp2_with fail
    go_ret
    exact ⟨congrArg (fun b => Ending.returned (.bool b)) HR.out.symm, hWb⟩
  · by_cases c2 : S = T
    · by_cases c3 : N < M
      · have HR : Hid (decide (a < b) = true) := decide_eq_true (HO.out.2 (.inr ⟨c2, c3⟩))
        subst c2
        go_wp2_with fail
        refine (nsec_any w.heap.size N W HNM.out.1 q0).mono ?_
        rintro e w' ⟨rfl, rfl⟩
        go_wp2_with fail
        refine (nsec_any (w.heap.size + 1) M W HNM.out.2 p0).mono ?_
        rintro e w' ⟨rfl, rfl⟩
        go_wp2_with fail
        go_ret
        exact ⟨congrArg (fun b => Ending.returned (.bool b)) (by first | exact HR.out.symm | (rw [HR.out]; simp [c3])), hWb⟩
      · have HR : Hid (decide (a < b) = false) := decide_eq_false (fun h => by have := HO.out.1 h; omega)
        subst c2
        go_wp2_with fail
        refine (nsec_any w.heap.size N W HNM.out.1 q0).mono ?_
        rintro e w' ⟨rfl, rfl⟩
        go_wp2_with fail
        refine (nsec_any (w.heap.size + 1) M W HNM.out.2 p0).mono ?_
        rintro e w' ⟨rfl, rfl⟩
        go_wp2_with fail
        go_ret
        exact ⟨congrArg (fun b => Ending.returned (.bool b)) (by first | exact HR.out.symm | (rw [HR.out]; simp; omega)), hWb⟩
    · have HR : Hid (decide (a < b) = false) := decide_eq_false (fun h => by have := HO.out.1 h; omega)
      have c4 : (S == T) = false := by simp [c2]
      go_wp2_with fail
      go_ret
      exact ⟨congrArg (fun b => Ending.returned (.bool b)) (by first | exact HR.out.symm | (rw [HR.out]; simp; omega)), hWb⟩
end Go.Proofs.Qxb6613147a
