import Derived.Test.Qxb6613147aReads
import Derived.Test.Qxb6613147aLocked
namespace Go.Proofs.Qxb6613147a
open Go.RowKit
set_option linter.unusedVariables false

theorem eq25_same (a : Addr) (d : Nat) (w : World) : (Op.equalIn (d + 1) 25 (.pointer (some a)) (.pointer (some a))).run Try.prog w = .ok true w := by
  obtain ⟨j, hj⟩ := Option.isSome_iff_exists.1 (show (Try.prog.info? 45).isSome = true by kernel_rfl)
  simp [Op.equalIn, run_underlying Try.underlying25, sizeOf, typeInfo, hj, run_sameAddr_same]
theorem neq25_same (a : Addr) (w : World) : (binOp .neq 25 (.pointer (some a)) (.pointer (some a))).run Try.prog w = .ok (.bool false) w := by
  have h := fun d => eq25_same a d w
  simp only [binOp]
  simp [Op.equal, Op.maxDepth, h 9999]
theorem eql25_same (a : Addr) (w : World) : (binOp .eql 25 (.pointer (some a)) (.pointer (some a))).run Try.prog w = .ok (.bool true) w := by
  have h := fun d => eq25_same a d w
  simp only [binOp]
  simp [Op.equal, Op.maxDepth, h 9999]

def fitsB (k : Nat) : Bool := decide (k ≤ 1048576)
theorem bytes6 (key : ByteArray) (fin : Bool) (e n1 n2 : Int) (w : World) (hp : key.size ≤ maxLen) :
    Calls Try.prog 6 #[.string key, .bool fin, .int .i64 e, .int .i64 n1, .int .i64 n2] w fun e w' => e = .returned (.bool (fitsB key.size)) ∧ w = w' := by
  unfold maxLen at hp
  go_enter Try.func6, Try.ntmps6
  go_wp2
  all_goals go_ret
  all_goals refine ⟨congrArg (fun b => Ending.returned (.bool b)) ?_, rfl⟩
  all_goals (unfold fitsB; simp; omega)
theorem bytes11 (key other : ByteArray) (fin : Bool) (e n1 n2 : Int) (w : World) (hp : key.size ≤ maxLen) (ho : other.size ≤ maxLen) :
    Calls Try.prog 11 #[.string key, .string other, .bool fin, .int .i64 e, .int .i64 n1, .int .i64 n2] w fun e w' => e = .returned (.bool (fitsB (key.size + other.size))) ∧ w = w' := by
  unfold maxLen at hp ho
  go_enter Try.func11, Try.ntmps11
  go_wp2
  all_goals go_ret
  all_goals refine ⟨congrArg (fun b => Ending.returned (.bool b)) ?_, rfl⟩
  all_goals (unfold fitsB; simp; omega)

theorem zl (Q : Option Addr → World → Prop) (w : World) (sb : Nat) (k : ByteArray) (now : Int) (h0 : -9223372036854775808 ≤ now) (h1 : now ≤ 9223372036854775807)
    (h : ∀ w1, Below w.heap.size w w1 → Calls Try.prog 18 #[.pointer (some ⟨sb, 0, none⟩), .string k, .agg #[.int .u64 (tN now : Int), .int .i64 (tS now), .pointer none]] w1 fun e w' => ∃ p, e = .returned (.pointer p) ∧ Q p w') :
    Calls Try.prog 9 #[.pointer (some ⟨sb, 0, none⟩), .string k, .int .i64 now] w fun e w' => ∃ p, e = .returned (.pointer p) ∧ Q p w' := by
  go_enter Try.func9, Try.ntmps9
  go_wp2_with fail
  refine (at_any now w h0 h1).mono ?_
  rintro e w1 ⟨rfl, hb1⟩
  go_wp2_with fail
  refine (h w1 hb1).mono ?_
  rintro e w2 ⟨p, rfl, hQ⟩
  go_wp2
  go_ret
  exact ⟨p, rfl, hQ⟩

theorem zl_miss (w : World) (sb mb rb cb : Nat) (k key : ByteArray) (fin : Bool) (ends now : Int) (h0 : -9223372036854775808 ≤ now) (h1 : now ≤ 9223372036854775807) (hne : k ≠ key) (h : Full w sb mb rb cb key fin ends) :
    Calls Try.prog 9 #[.pointer (some ⟨sb, 0, none⟩), .string k, .int .i64 now] w fun e w' => e = .returned (.pointer none) ∧ Below w.heap.size w w' := by
  refine (zl (fun p w' => p = none ∧ Below w.heap.size w w') w sb k now h0 h1 fun w1 hb => ?_).mono ?_
  · refine (locked_miss w1 sb mb rb cb k key fin ends now hne (h.below hb)).mono ?_
    rintro e w' ⟨rfl, hb'⟩
    exact ⟨none, rfl, rfl, hb.trans (hb'.mono hb.size)⟩
  · rintro e w' ⟨p, rfl, rfl, hb⟩
    exact ⟨rfl, hb⟩
theorem zl_empt (w : World) (sb mb : Nat) (k : ByteArray) (now : Int) (h0 : -9223372036854775808 ≤ now) (h1 : now ≤ 9223372036854775807) (h : Empt w sb mb) :
    Calls Try.prog 9 #[.pointer (some ⟨sb, 0, none⟩), .string k, .int .i64 now] w fun e w' => e = .returned (.pointer none) ∧ Below w.heap.size w w' := by
  refine (zl (fun p w' => p = none ∧ Below w.heap.size w w') w sb k now h0 h1 fun w1 hb => ?_).mono ?_
  · refine (locked_empt w1 sb mb k now (h.below hb)).mono ?_
    rintro e w' ⟨rfl, hb'⟩
    exact ⟨none, rfl, rfl, hb.trans (hb'.mono hb.size)⟩
  · rintro e w' ⟨p, rfl, rfl, hb⟩
    exact ⟨rfl, hb⟩
theorem zl_hit (w : World) (sb mb rb cb : Nat) (key : ByteArray) (fin : Bool) (ends now : Int) (h0 : -9223372036854775808 ≤ now) (h1 : now ≤ 9223372036854775807) (hk : fin = true ∨ now < ends) (h : Full w sb mb rb cb key fin ends) :
    Calls Try.prog 9 #[.pointer (some ⟨sb, 0, none⟩), .string key, .int .i64 now] w fun e w' => e = .returned (.pointer (some ⟨rb, 0, none⟩)) ∧ Below w.heap.size w w' := by
  refine (zl (fun p w' => p = some ⟨rb, 0, none⟩ ∧ Below w.heap.size w w') w sb key now h0 h1 fun w1 hb => ?_).mono ?_
  · have h' := h.below hb
    cases fin with
    | true =>
      refine (locked_fin w1 sb mb rb cb key ends now h').mono ?_
      rintro e w' ⟨rfl, hb'⟩
      exact ⟨_, rfl, rfl, hb.trans (hb'.mono hb.size)⟩
    | false =>
      refine (locked_live w1 sb mb rb cb key ends now (by simpa using hk) h').mono ?_
      rintro e w' ⟨rfl, hb'⟩
      exact ⟨_, rfl, rfl, hb.trans (hb'.mono hb.size)⟩
  · rintro e w' ⟨p, rfl, rfl, hb⟩
    exact ⟨rfl, hb⟩
theorem zl_lapsed (w : World) (sb mb rb cb : Nat) (key : ByteArray) (ends now : Int) (h0 : -9223372036854775808 ≤ now) (h1 : now ≤ 9223372036854775807) (hk : ¬ now < ends) (h : Full w sb mb rb cb key false ends) :
    Calls Try.prog 9 #[.pointer (some ⟨sb, 0, none⟩), .string key, .int .i64 now] w fun e w' => e = .returned (.pointer none) ∧ Empt w' sb mb ∧ ∀ B, B ≤ mb → B ≤ cb → B ≤ w.heap.size → Below B w w' := by
  refine (zl (fun p w' => p = none ∧ Empt w' sb mb ∧ ∀ B, B ≤ mb → B ≤ cb → B ≤ w.heap.size → Below B w w') w sb key now h0 h1 fun w1 hb => ?_).mono ?_
  · refine (locked_lapsed w1 sb mb rb cb key ends now (decide_eq_false hk) (h.below hb)).mono ?_
    rintro e w' ⟨rfl, hE, hb'⟩
    exact ⟨_, rfl, rfl, hE, fun B b1 b2 b3 => (hb.mono b3).trans (hb' B b1 b2 (Nat.le_trans b3 hb.size))⟩
  · rintro e w' ⟨p, rfl, rfl, hE, hb⟩
    exact ⟨rfl, hE, hb⟩
end Go.Proofs.Qxb6613147a
