import Derived.Test.Qxb6612924aProg
import Derived.WalkKit
import Derived.WalkLawsBesides
import Derived.Laws.FloatArith
import Derived.Laws.CopyOwn
import Derived.Deep.OwnRows
import Derived.BigRegion
namespace Go.Proofs.Qxb6612924a
open Go.RowKit Go.Deep
set_option linter.unusedVariables false

/-- sameFloatB1 in the walk's own words. -/
def sameB (a b : Nat) : Bool := (FloatKind.f64.format.order a b == some .eq) || ((FloatKind.f64.format.order a a != some .eq) && (FloatKind.f64.format.order b b != some .eq))

theorem same_any (a b : Nat) (w : World) :
    Calls Try.prog 10 #[.float .f64 a, .float .f64 b] w fun e w' => e = .returned (.bool (sameB a b)) ∧ w = w' := by
  unfold sameB
  generalize h1 : (FloatKind.f64.format.order a b == some .eq) = c1
  generalize h2 : (FloatKind.f64.format.order a a != some .eq) = c2
  generalize h3 : (FloatKind.f64.format.order b b != some .eq) = c3
  cases c1 <;> cases c2 <;> cases c3 <;> (go_enter Try.func10, Try.ntmps10; go_wp2; go_ret; exact ⟨rfl, rfl⟩)

/-- ZZMatchDoc: reads the first cell of match i. -/
theorem doc_any (b n c : Nat) (iv : Int) (i : Nat) (hiv : iv = i) (d : Int) (w : World) (hi : i < n) (hm : n ≤ 1048576) (hc : w.cell? ⟨b, i * 2, none⟩ = some (.int .i32 d)) :
    Calls Try.prog 8 #[.slice (some ⟨b, 0, none⟩) n c, .int .i64 iv] w fun e w' => e = .returned (.int .i32 d) ∧ w = w' := by
  subst hiv
  go_enter Try.func8, Try.ntmps8
  go_wp2
  go_ret
  exact ⟨rfl, rfl⟩
theorem score_any (b n c : Nat) (iv : Int) (i : Nat) (hiv : iv = i) (s : Nat) (w : World) (hi : i < n) (hm : n ≤ 1048576) (hc : w.cell? ⟨b, i * 2 + 1, none⟩ = some (.float .f64 s)) :
    Calls Try.prog 9 #[.slice (some ⟨b, 0, none⟩) n c, .int .i64 iv] w fun e w' => e = .returned (.float .f64 s) ∧ w = w' := by
  subst hiv
  go_enter Try.func9, Try.ntmps9
  go_wp2
  go_ret
  exact ⟨rfl, rfl⟩

/-- The product of x and y: the bits where it is a number, any NaN where it is none. -/
def Prodf (x y s : Nat) : Prop := (∃ r, FloatKind.f64.format.mul x y = some r ∧ s = r) ∨ (FloatKind.f64.format.mul x y = none ∧ (FloatKind.f64.format.read s).isNaN = true)

theorem Try.info48 : (Try.prog.info? 48).map (fun i => (i.zero, i.size, i.bytes)) = some (some (.agg #[.int .i32 0, .float .f64 0]), 2, 16) := by kernel_rfl

/-- The bits of the tape's NaN. -/
def nanAt (x y : Nat) (w : World) : Nat := Question.cut (.nanBits .f64 x y) (w.tape w.drawn (.nanBits .f64 x y))
theorem nanAt_isNaN (x y : Nat) (w : World) : (FloatKind.f64.format.read (nanAt x y w)).isNaN = true := by
  unfold nanAt
  generalize w.tape w.drawn (.nanBits .f64 x y) = t
  show (Ieee.double.read ((t % 2) * 2 ^ 63 + 0x7ff0000000000000 + 1 + (t / 2) % (2 ^ 52 - 1))).isNaN = true
  generalize ht : (t / 2) % (2 ^ 52 - 1) = u
  have hu : u < 2 ^ 52 - 1 := by rw [← ht]; exact Nat.mod_lt _ (by decide)
  have h2 : t % 2 = 0 ∨ t % 2 = 1 := by omega
  have hs : Ieee.double.signWeight = 9223372036854775808 := by decide
  have hb : Ieee.double.binade = 4503599627370496 := by decide
  have hi : Ieee.double.infRung = 9218868437227405312 := by decide
  unfold Ieee.Format.read
  rw [hs, hb, hi]
  have hr : ((t % 2) * 2 ^ 63 + 0x7ff0000000000000 + 1 + u) % 9223372036854775808 = 9218868437227405313 + u := by omega
  simp only [hr]
  rw [if_neg (by omega), if_neg (by omega), if_neg (by omega)]
  rfl
theorem run_mul_none (x y : Nat) (h : FloatKind.f64.format.mul x y = none) (w : World) : (binOp .mul 22 (.float .f64 x) (.float .f64 y)).run Try.prog w = .ok (.float .f64 (nanAt x y w)) w.drew := by
  simp [binOp, Op.floatArith, h, nanAt, Question.forced]

theorem store_float (P : Program) (w : World) (a : Addr) (m : Mode) (k : FloatKind) (n : Nat) : (store a (.float k n) m).run P w = stored P w a (.float k n) m := run_store P w a _ m rfl
attribute [local go_sem] store_float

theorem madeAgg (n : Nat) (f : Nat → Value) (w : World) (t : TypeId) (a b : Value) (hf : ∀ i, f i = if i % 2 = 0 then a else b) :
    (w.alloc (.cells (madeCells #[a, b] (n * 2)) t)).rowIs w.heap.size t (n * 2) f :=
  ⟨_, blk_alloc_new _ _, size_madeCells _ _, fun i hi => by
    have hlt : i % 2 < 2 := Nat.mod_lt _ (by omega)
    have h01 : i % 2 = 0 ∨ i % 2 = 1 := by omega
    rcases h01 with h | h <;> simp [madeCells, hi, hf, h]⟩

def RowOk (x y : Nat) (Z : Nat → Int) (f : Nat → Value) (k : Nat) : Prop := ∀ j, j < k → f (j * 2) = .int .i32 (Z j) ∧ ∃ s, Prodf x y s ∧ f (j * 2 + 1) = .float .f64 s

theorem rowOk_step {x y : Nat} {Z : Nat → Int} {f : Nat → Value} {k s : Nat} (hok : RowOk x y Z f k) (hp : Prodf x y s) :
    RowOk x y Z (fun j => if j = k * 2 + 1 then .float .f64 s else (fun j => if j = k * 2 then .int .i32 (Z k) else f j) j) (k + 1) := by
  intro j hj
  by_cases e : j = k
  · subst e
    refine ⟨?_, s, hp, ?_⟩
    · simp
    · simp
  · obtain ⟨h1, t, h2, h3⟩ := hok j (by omega)
    have n1 : ¬ (j * 2 = k * 2 + 1) := by omega
    have n2 : ¬ (j * 2 = k * 2) := by omega
    have n3 : ¬ (j * 2 + 1 = k * 2 + 1) := by omega
    have n4 : ¬ (j * 2 + 1 = k * 2) := by omega
    refine ⟨?_, t, h2, ?_⟩
    · simp only [n1, n2, if_false]; exact h1
    · simp only [n3, n4, if_false]; exact h3

set_option maxHeartbeats 800000 in
theorem scored_any (bq : Nat) (x y nn idf : Nat) (a : Option Addr) (L C : Nat) (tf : Value) (np : Int) (Z : Nat → Int) (w : World)
    (hL : L ≤ 1048576) (hbq : bq < w.heap.size) (hq : w.cell? ⟨bq, 2, none⟩ = some (.float .f64 x))
    (hdocs : ∀ j, j < L → ∃ bd od, a = some ⟨bd, od, none⟩ ∧ bd < w.heap.size ∧ w.cell? ⟨bd, od + j, none⟩ = some (.int .i32 (Z j))) :
    Calls Try.prog 17 #[.pointer (some ⟨bq, 0, none⟩), .agg #[.pointer none, .float .f64 y, .float .f64 nn, .slice a L C, tf, .float .f64 idf, .int .i64 np]] w fun e w' =>
      ∃ b, w.heap.size ≤ b ∧ e = .returned (.slice (some ⟨b, 0, none⟩) L L) ∧ Below w.heap.size w w' ∧ ∃ f, w'.rowIs b 48 (L * 2) f ∧ RowOk x y Z f L := by
  obtain ⟨i0, hi, hz0, hz1, hz2⟩ := info_parts Try.info48
  have hmk : ∀ w : World, (Instr.makeSlice 25 (.int .i64 (L : Int)) (.int .i64 (L : Int))).run Try.prog w = .ok (.slice (some ⟨w.heap.size, 0, none⟩) L L) (w.alloc (.cells (madeCells #[.int .i32 0, .float .f64 0] (L * 2)) 48)) := by
    intro w
    have h := run_make (P := Try.prog) w 25 48 i0 _ Try.underlying25 hi hz0 .i64 .i64 L L (by omega) (Int.le_refl _) (by rw [hz2]; omega) (by omega)
    simpa [hz1, Value.cells] using h
  have hb48 : ∀ (d : Int) (s : Nat) (w : World), (Instr.build 48 #[(0, .int .i32 d), (1, .float .f64 s)]).run Try.prog w = .ok (.agg #[.int .i32 d, .float .f64 s]) w := fun d s w => run_build w 48 _ _ (by kernel_rfl)
  go_enter Try.func17, Try.ntmps17
  go_wp2
  obtain ⟨W, hW⟩ : ∃ W, W = ((w.alloc (Obj.cells #[Value.pointer none, Value.float FloatKind.f64 y, Value.float FloatKind.f64 nn, Value.slice a L C, tf, Value.float FloatKind.f64 idf, Value.int IntKind.i64 np] 46)).alloc (Obj.cells (madeCells #[Value.int IntKind.i32 0, Value.float FloatKind.f64 0] (L * 2)) 48)) := ⟨_, rfl⟩
  rw [← hW]
  have hWb : Below w.heap.size w W := by subst hW; exact ((Below.refl _ _).alloc (Nat.le_refl _) _).alloc (by simp) _
  have hWs : W.heap.size = w.heap.size + 2 := by subst hW; simp
  have hWy : W.cell? ⟨w.heap.size, 1, none⟩ = some (.float .f64 y) := by subst hW; simp [go_sem]
  have hWr : W.rowIs (w.heap.size + 1) 48 (L * 2) (fun i => if i % 2 = 0 then .int .i32 0 else .float .f64 0) := by
    subst hW
    have h := madeAgg L (fun i => if i % 2 = 0 then .int .i32 0 else .float .f64 0) (w.alloc (Obj.cells #[Value.pointer none, Value.float FloatKind.f64 y, Value.float FloatKind.f64 nn, Value.slice a L C, tf, Value.float FloatKind.f64 idf, Value.int IntKind.i64 np] 46)) 48 _ _ (fun _ => rfl)
    simpa using h
  clear hW
  go_loopw [15] (fun i wr => ∃ k : Nat, k ≤ L ∧ i = .int .i64 k ∧ Below (w.heap.size + 1) W wr ∧ ∃ f, wr.rowIs (w.heap.size + 1) 48 (L * 2) f ∧ RowOk x y Z f k) (fun i _ => L - (intOf i).toNat)
  case atStart => exact ⟨0, Nat.zero_le _, rfl, Below.refl _ _, _, hWr, fun j hj => by omega⟩
  case round =>
    obtain ⟨k, hk, rfl, hbel, f, hrow, hok⟩ := hrel
    by_cases hlt : k < L
    · obtain ⟨bd, od, rfl, hbd, hcd⟩ := hdocs k hlt
      have g1 : wr.cell? ⟨bd, od + k, none⟩ = some (.int .i32 (Z k)) := by
        rw [hbel.cell (p := ⟨bd, od + k, none⟩) (by show bd < _; omega), hWb.cell (p := ⟨bd, od + k, none⟩) hbd]; exact hcd
      have g2 : wr.cell? ⟨bq, 2, none⟩ = some (.float .f64 x) := by
        rw [hbel.cell (p := ⟨bq, 2, none⟩) (by show bq < _; omega), hWb.cell (p := ⟨bq, 2, none⟩) hbq]; exact hq
      have g3 : wr.cell? ⟨w.heap.size, 1, none⟩ = some (.float .f64 y) := by
        rw [hbel.cell (p := ⟨w.heap.size, 1, none⟩) (by show w.heap.size < _; omega)]; exact hWy
      have c0 := hrow.cell (i := k * 2) (by omega)
      have c1 := hrow.cell (i := k * 2 + 1) (by omega)
      have z0 := hrow.frozen (k * 2)
      have z1 := hrow.frozen (k * 2 + 1)
      clear hdocs hcd hq hWy hWr
      cases hm : FloatKind.f64.format.mul x y with
      | some r =>
        have hmul : ∀ w : World, (binOp .mul 22 (.float .f64 x) (.float .f64 y)).run Try.prog w = .ok (.float .f64 r) w := fun w => run_float_arith w .mul 22 .f64 x y r hm
        go_wp2
        go_region
        all_goals go_wp2
        go_roundw
        case rel => exact ⟨k + 1, by omega, by go_num, ((hbel.setCell (by simp) _).setCell (by simp) _).drew, _, ((hrow.set _ _).set _ _).drew, rowOk_step hok (.inl ⟨r, hm, rfl⟩)⟩
        case measure => simp [intOf]; omega
      | none =>
        have hmul := run_mul_none x y hm
        go_wp2
        go_region
        all_goals go_wp2
        go_roundw
        case rel => exact ⟨k + 1, by omega, by go_num, ((hbel.setCell (by simp) _).setCell (by simp) _).drew.drew, _, ((hrow.set _ _).set _ _).drew.drew, rowOk_step hok (.inr ⟨hm, nanAt_isNaN x y _⟩)⟩
        case measure => simp [intOf]; omega
    · obtain rfl : k = L := by omega
      go_wp2
      go_ret
      refine ⟨_, ?_, rfl, hWb.trans (hbel.mono (by omega)), f, hrow, hok⟩
      omega

set_option maxHeartbeats 800000 in
theorem ZZScored_any (pre : ByteArray) (field : Int) (x y nn idf : Nat) (a : Option Addr) (L C : Nat) (ta : Option Addr) (tl tc : Nat) (np : Int) (Z : Nat → Int) (w : World)
    (hL : L ≤ 1048576)
    (hdocs : ∀ j, j < L → ∃ bd od, a = some ⟨bd, od, none⟩ ∧ bd < w.heap.size ∧ w.cell? ⟨bd, od + j, none⟩ = some (.int .i32 (Z j))) :
    Calls Try.prog 7 #[.string pre, .int .i64 field, .float .f64 x, .float .f64 y, .float .f64 nn, .slice a L C, .slice ta tl tc, .float .f64 idf, .int .i64 np] w fun e w' =>
      ∃ b, w.heap.size ≤ b ∧ e = .returned (.slice (some ⟨b, 0, none⟩) L L) ∧ Below w.heap.size w w' ∧ ∃ f, w'.rowIs b 48 (L * 2) f ∧ RowOk x y Z f L := by
  have hb40 : ∀ w : World, (Instr.build 40 #[(0, .string pre), (1, .int .i64 field), (2, .float .f64 x)]).run Try.prog w = .ok (.agg #[.string pre, .int .i64 field, .float .f64 x]) w := fun w => run_build w 40 _ _ (by kernel_rfl)
  have hb44 : ∀ w : World, (Instr.build 44 #[(1, .float .f64 y), (2, .float .f64 nn)]).run Try.prog w = .ok (.agg #[.pointer none, .float .f64 y, .float .f64 nn]) w := fun w => run_build w 44 _ _ (by kernel_rfl)
  have hb46 : ∀ w : World, (Instr.build 46 #[(0, .agg #[.pointer none, .float .f64 y, .float .f64 nn]), (1, .slice a L C), (2, .slice ta tl tc), (3, .float .f64 idf), (4, .int .i64 np)]).run Try.prog w = .ok (.agg #[.pointer none, .float .f64 y, .float .f64 nn, .slice a L C, .slice ta tl tc, .float .f64 idf, .int .i64 np]) w := fun w => run_build w 46 _ _ (by kernel_rfl)
  have Hd : Hid (∀ j, j < L → ∃ bd od, a = some ⟨bd, od, none⟩ ∧ bd < w.heap.size ∧ w.cell? ⟨bd, od + j, none⟩ = some (.int .i32 (Z j))) := hdocs
  clear hdocs
  go_enter Try.func7, Try.ntmps7
  go_wp2_with fail
  have hBW : Below w.heap.size w (w.alloc (Obj.cells #[Value.string pre, Value.int IntKind.i64 field, Value.float FloatKind.f64 x] 40)) := (Below.refl _ _).alloc (Nat.le_refl _) _
  refine (scored_any w.heap.size x y nn idf a L C (.slice ta tl tc) np Z _ hL (by simp) (by simp [go_sem]) ?_).mono ?_
  · intro j hj
    obtain ⟨bd, od, e, h1, h2⟩ := Hd.out j hj
    exact ⟨bd, od, e, by simp; omega, by rw [hBW.cell (p := ⟨bd, od + j, none⟩) h1]; exact h2⟩
  · rintro e w' ⟨b, hb, rfl, hbel, f, hrow, hok⟩
    go_wp2
    go_ret
    exact ⟨b, by simp at hb; omega, rfl, hBW.trans (hbel.mono (by simp)), f, hrow, hok⟩
end Go.Proofs.Qxb6612924a
