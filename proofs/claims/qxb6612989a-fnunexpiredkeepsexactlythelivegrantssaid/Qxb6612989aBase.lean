import Derived.Test.Qxb6612989aProg
import Derived.Test.Qxb6612989aCopy
import Derived.WalkLawsBesides
import Derived.WalkSpells
import Derived.BigRegion
namespace Go.Proofs.Qxb6612989a
open Go.RowKit Go.Deep
set_option linter.unusedVariables false

/-! ### the record's row: five cells a grant -/
def Kf (g : Nat → Int × Int) (i : Nat) : Value := if i % 5 = 0 then .string ⟨#[]⟩ else if i % 5 = 1 then .int .u64 (g (i / 5)).1 else if i % 5 = 4 then .int .i64 (g (i / 5)).2 else .int .i64 0
theorem Kf0 (g : Nat → Int × Int) (j : Nat) : Kf g (j * 5) = .string ⟨#[]⟩ := by unfold Kf; rw [if_pos (by omega)]
theorem Kf1 (g : Nat → Int × Int) (j : Nat) : Kf g (j * 5 + 1) = .int .u64 (g j).1 := by unfold Kf; rw [if_neg (by omega), if_pos (by omega), show (j * 5 + 1) / 5 = j from by omega]
theorem Kf2 (g : Nat → Int × Int) (j : Nat) : Kf g (j * 5 + 2) = .int .i64 0 := by unfold Kf; rw [if_neg (by omega), if_neg (by omega), if_neg (by omega)]
theorem Kf3 (g : Nat → Int × Int) (j : Nat) : Kf g (j * 5 + 3) = .int .i64 0 := by unfold Kf; rw [if_neg (by omega), if_neg (by omega), if_neg (by omega)]
theorem Kf4 (g : Nat → Int × Int) (j : Nat) : Kf g (j * 5 + 4) = .int .i64 (g j).2 := by unfold Kf; rw [if_neg (by omega), if_neg (by omega), if_pos (by omega), show (j * 5 + 4) / 5 = j from by omega]

theorem Kf_congr {g g' : Nat → Int × Int} {n : Nat} (h : ∀ j, j < n → g j = g' j) : ∀ i, i < n * 5 → Kf g i = Kf g' i := by
  intro i hi
  unfold Kf
  rw [h (i / 5) (by omega)]

theorem rowIs_set5 {w : World} {b n c : Nat} {g : Nat → Int × Int} {t u : Int} (h : w.rowIs b 38 n (Kf g)) :
    (((((w.setCell ⟨b, c * 5, none⟩ (.string ⟨#[]⟩)).setCell ⟨b, c * 5 + 1, none⟩ (.int .u64 t)).setCell ⟨b, c * 5 + 2, none⟩ (.int .i64 0)).setCell ⟨b, c * 5 + 3, none⟩ (.int .i64 0)).setCell ⟨b, c * 5 + 4, none⟩ (.int .i64 u)).rowIs b 38 n (Kf (fun j => if j = c then (t, u) else g j)) := by
  refine (((((h.set (c * 5) (.string ⟨#[]⟩)).set (c * 5 + 1) (.int .u64 t)).set (c * 5 + 2) (.int .i64 0)).set (c * 5 + 3) (.int .i64 0)).set (c * 5 + 4) (.int .i64 u)).congr fun i hi => ?_
  by_cases hq : i / 5 = c
  · have hr : i = c * 5 ∨ i = c * 5 + 1 ∨ i = c * 5 + 2 ∨ i = c * 5 + 3 ∨ i = c * 5 + 4 := by omega
    rcases hr with rfl | rfl | rfl | rfl | rfl
    · simp [Kf0]
    · simp [Kf1]
    · simp [Kf2]
    · simp [Kf3]
    · simp [Kf4]
  · have n0 : ¬ i = c * 5 := by omega
    have n1 : ¬ i = c * 5 + 1 := by omega
    have n2 : ¬ i = c * 5 + 2 := by omega
    have n3 : ¬ i = c * 5 + 3 := by omega
    have n4 : ¬ i = c * 5 + 4 := by omega
    simp only [n0, n1, n2, n3, n4, if_false]
    unfold Kf
    simp only [hq, if_false]

theorem madeKf (n : Nat) (w : World) : (w.alloc (.cells (madeCells #[.string ⟨#[]⟩, .int .u64 0, .int .i64 0, .int .i64 0, .int .i64 0] (n * 5)) 38)).rowIs w.heap.size 38 (n * 5) (Kf (fun _ => (0, 0))) :=
  ⟨_, blk_alloc_new _ _, size_madeCells _ _, fun i hi => by
    have hr : i % 5 = 0 ∨ i % 5 = 1 ∨ i % 5 = 2 ∨ i % 5 = 3 ∨ i % 5 = 4 := by omega
    rcases hr with h | h | h | h | h <;> simp [madeCells, hi, Kf, h]⟩

/-! ### a slice whose numbers lie at the head of a block -/
def HeldK (k : IntKind) (wx : World) (a : Option Addr) (n : Nat) (Z : Nat → Int) : Prop := ∀ j, j < n → ∃ b, a = some ⟨b, 0, none⟩ ∧ b < wx.heap.size ∧ wx.cell? ⟨b, j, none⟩ = some (.int k (Z j))
theorem HeldK.below {k : IntKind} {wx wy : World} {a : Option Addr} {n : Nat} {Z : Nat → Int} (h : HeldK k wx a n Z) (hb : Below wx.heap.size wx wy) : HeldK k wy a n Z := by
  intro j hj
  obtain ⟨b, h1, h3, h4⟩ := h j hj
  exact ⟨b, h1, Nat.lt_of_lt_of_le h3 hb.size, by rw [hb.cell (p := ⟨b, j, none⟩) h3]; exact h4⟩

theorem Try.info38 : (Try.prog.info? 38).map (fun i => (i.zero, i.size, i.bytes)) = some (some (.agg #[.string ⟨#[]⟩, .int .u64 0, .int .i64 0, .int .i64 0, .int .i64 0]), 5, 48) := by kernel_rfl
theorem Try.info25 : (Try.prog.info? 25).map (fun i => (i.zero, i.size, i.bytes)) = some (some (.int .u64 0), 1, 8) := by kernel_rfl
theorem Try.info2 : (Try.prog.info? 2).map (fun i => (i.zero, i.size, i.bytes)) = some (some (.int .i64 0), 1, 8) := by kernel_rfl

/-- 'make([]kept, n)' -/
theorem run_make38 (n : Nat) (hn : n ≤ 1048576) (w : World) : (Instr.makeSlice 33 (.int .i64 (n : Int)) (.int .i64 (n : Int))).run Try.prog w = .ok (.slice (some ⟨w.heap.size, 0, none⟩) n n) (w.alloc (.cells (madeCells #[.string ⟨#[]⟩, .int .u64 0, .int .i64 0, .int .i64 0, .int .i64 0] (n * 5)) 38)) := by
  obtain ⟨i0, hi, hz0, hz1, hz2⟩ := info_parts Try.info38
  have h := run_make (P := Try.prog) w 33 38 i0 _ Try.underlying33 hi hz0 .i64 .i64 n n (by omega) (Int.le_refl _) (by rw [hz2]; omega) (by omega)
  simpa [hz1, Value.cells] using h

/-- A record at r whose grants are the row b. -/
def RecAt (w : World) (r b n : Nat) (g : Nat → Int × Int) : Prop := r ≠ b ∧ w.cell? ⟨r, 2, none⟩ = some (.slice (some ⟨b, 0, none⟩) n n) ∧ w.rowIs b 38 (n * 5) (Kf g)

set_option maxHeartbeats 800000 in
theorem newRecord_any (ta ua : Option Addr) (n tc uc : Nat) (T U : Nat → Int) (w : World) (hn : n ≤ 65536) (hT : HeldK .u64 w ta n T) (hU : HeldK .i64 w ua n U) :
    Calls Try.prog 6 #[.slice ta n tc, .slice ua n uc] w fun e w' =>
      ∃ r b, w.heap.size ≤ r ∧ w.heap.size ≤ b ∧ e = .returned (.pointer (some ⟨r, 0, none⟩)) ∧ Below w.heap.size w w' ∧ RecAt w' r b n (fun j => (T j, U j)) := by
  have hmk := run_make38 n (by omega)
  have hb36 : ∀ (t : Int) (w : World), (Instr.build 36 #[(1, .int .u64 t)]).run Try.prog w = .ok (.agg #[.string ⟨#[]⟩, .int .u64 t, .int .i64 0, .int .i64 0]) w := fun t w => run_build w 36 _ _ (by kernel_rfl)
  have hb38 : ∀ (t u : Int) (w : World), (Instr.build 38 #[(0, .agg #[.string ⟨#[]⟩, .int .u64 t, .int .i64 0, .int .i64 0]), (1, .int .i64 u)]).run Try.prog w = .ok (.agg #[.string ⟨#[]⟩, .int .u64 t, .int .i64 0, .int .i64 0, .int .i64 u]) w := fun t u w => run_build w 38 _ _ (by kernel_rfl)
  go_enter Try.func6, Try.ntmps6
  go_wp2
  obtain ⟨W, hW⟩ : ∃ W, W = (w.alloc (Obj.cells (madeCells #[.string ⟨#[]⟩, .int .u64 0, .int .i64 0, .int .i64 0, .int .i64 0] (n * 5)) 38)) := ⟨_, rfl⟩
  rw [← hW]
  have hWb : Below w.heap.size w W := by subst hW; exact (Below.refl _ _).alloc (Nat.le_refl _) _
  have hWr : W.rowIs w.heap.size 38 (n * 5) (Kf (fun _ => (0, 0))) := by subst hW; exact madeKf n w
  clear hW
  go_loopw [12] (fun i wr => ∃ k : Nat, k ≤ n ∧ i = .int .i64 k ∧ Below w.heap.size w wr ∧ wr.rowIs w.heap.size 38 (n * 5) (Kf (fun j => if j < k then (T j, U j) else (0, 0)))) (fun i _ => n - (intOf i).toNat)
  case atStart => exact ⟨0, Nat.zero_le _, rfl, hWb, hWr.congr (Kf_congr (fun j hj => by simp))⟩
  case round =>
    obtain ⟨k, hk, rfl, hbel, hrow⟩ := hrel
    by_cases hlt : k < n
    · obtain ⟨b1, rfl, hb1, c1⟩ := hT k hlt
      obtain ⟨b2, rfl, hb2, c2⟩ := hU k hlt
      have g1 : wr.cell? ⟨b1, k, none⟩ = some (.int .u64 (T k)) := by rw [hbel.cell (p := ⟨b1, k, none⟩) hb1]; exact c1
      have g2 : wr.cell? ⟨b2, k, none⟩ = some (.int .i64 (U k)) := by rw [hbel.cell (p := ⟨b2, k, none⟩) hb2]; exact c2
      have d0 := hrow.cell (i := k * 5) (by omega)
      have d1 := hrow.cell (i := k * 5 + 1) (by omega)
      have d2 := hrow.cell (i := k * 5 + 2) (by omega)
      have d3 := hrow.cell (i := k * 5 + 3) (by omega)
      have d4 := hrow.cell (i := k * 5 + 4) (by omega)
      have z0 := hrow.frozen (k * 5)
      have z1 := hrow.frozen (k * 5 + 1)
      have z2 := hrow.frozen (k * 5 + 2)
      have z3 := hrow.frozen (k * 5 + 3)
      have z4 := hrow.frozen (k * 5 + 4)
      clear hT hU c1 c2 hWr hWb
      go_wp2
      go_region
      all_goals go_wp2
      go_roundw
      case rel =>
        refine ⟨k + 1, by omega, by go_num, (((((hbel.setCell (Nat.le_refl _) _).setCell (Nat.le_refl _) _).setCell (Nat.le_refl _) _).setCell (Nat.le_refl _) _).setCell (Nat.le_refl _) _).drew, (rowIs_set5 hrow).drew.congr (Kf_congr (fun j hj => ?_))⟩
        by_cases e : j = k
        · subst e; simp
        · by_cases e2 : j < k
          · simp [e, e2, Nat.lt_succ_of_lt e2]
          · simp [e, e2, show ¬ j < k + 1 from by omega]
      case measure => simp [intOf]; omega
    · obtain rfl : k = n := by omega
      go_wp2
      go_ret
      have hlt2 := hrow.lt
      exact ⟨wr.heap.size, w.heap.size, hbel.size, Nat.le_refl _, rfl, hbel.alloc hbel.size _, by omega, by simp [go_sem], (hrow.congr (Kf_congr (fun j hj => by simp [hj]))).alloc _⟩
end Go.Proofs.Qxb6612989a
