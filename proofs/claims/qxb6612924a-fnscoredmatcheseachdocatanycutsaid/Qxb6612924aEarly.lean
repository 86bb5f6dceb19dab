import Derived.Test.Qxb6612924aSmall
import Derived.WalkSpells
namespace Go.Proofs.Qxb6612924a
open Go.RowKit Go.Deep
set_option linter.unusedVariables false
/-- do the three lengths sum to at most 1<<20 -/
def fitsB (p d t : Nat) : Bool := decide (p + d + t ≤ 1048576)
theorem bytes_any (pre : ByteArray) (field : Int) (x y nn : Nat) (a : Option Addr) (L C : Nat) (ta : Option Addr) (tl tc : Nat) (idf : Nat) (np cut : Int) (w : World)
    (hp : pre.size ≤ maxLen) (hd : L ≤ maxLen) (ht : tl ≤ maxLen) :
    Calls Try.prog 6 #[.string pre, .int .i64 field, .float .f64 x, .float .f64 y, .float .f64 nn, .slice a L C, .slice ta tl tc, .float .f64 idf, .int .i64 np, .int .i64 cut] w fun e w' =>
      e = .returned (.bool (fitsB pre.size L tl)) ∧ w = w' := by
  unfold maxLen at hp hd ht
  go_enter Try.func6, Try.ntmps6
  go_wp2
  all_goals go_ret
  all_goals refine ⟨congrArg (fun b => Ending.returned (.bool b)) ?_, rfl⟩
  all_goals (unfold fitsB; simp; omega)

set_option maxRecDepth 100000 in
set_option maxHeartbeats 2000000 in
theorem early3 (pre : ByteArray) (field : Int) (x y nn : Nat) (a : Option Addr) (L C : Nat) (ta : Option Addr) (tl tc : Nat) (idf : Nat) (np : Int) (cut : Int) (w : World)
    (hp : pre.size ≤ maxLen) (hL : L ≤ maxLen) (htl : tl ≤ maxLen)
    (h : ¬ (pre.size + L + tl ≤ 1048576 ∧ pre.size ≤ 65536 ∧ L ≤ 65536 ∧ tl ≤ 65536 ∧ pre.size + 4 * L + 4 * tl ≤ 1048576 ∧ 0 ≤ cut ∧ cut ≤ L)) :
    Calls Try.prog 3 #[.string pre, .int .i64 field, .float .f64 x, .float .f64 y, .float .f64 nn, .slice a L C, .slice ta tl tc, .float .f64 idf, .int .i64 np, .int .i64 cut] w fun e w' =>
      e = .returned (.bool true) ∧ Below w.heap.size w w' := by
  have hb := bytes_any pre field x y nn a L C ta tl tc idf np cut w hp hL htl
  by_cases g1 : pre.size + L + tl ≤ 1048576
  · have hfit : fitsB pre.size L tl = true := by simp [fitsB]; omega
    by_cases g2 : pre.size ≤ 65536
    · by_cases g3 : L ≤ 65536
      · by_cases g4 : tl ≤ 65536
        · by_cases g5 : pre.size + 4 * L + 4 * tl ≤ 1048576
          · by_cases g6 : 0 ≤ cut
            · have g7 : (L : Int) < cut := by omega
              clear h
              go_enter Try.func3, Try.ntmps3
              go_wp2_with (go_at_call 6; refine hb.mono ?_; rintro e w' ⟨rfl, rfl⟩)
              all_goals (go_ret; exact ⟨rfl, Below.refl _ _⟩)
            · clear h
              go_enter Try.func3, Try.ntmps3
              go_wp2_with (go_at_call 6; refine hb.mono ?_; rintro e w' ⟨rfl, rfl⟩)
              all_goals (go_ret; exact ⟨rfl, Below.refl _ _⟩)
          · clear h
            go_enter Try.func3, Try.ntmps3
            go_wp2_with (go_at_call 6; refine hb.mono ?_; rintro e w' ⟨rfl, rfl⟩)
            all_goals (go_ret; exact ⟨rfl, Below.refl _ _⟩)
        · clear h
          go_enter Try.func3, Try.ntmps3
          go_wp2_with (go_at_call 6; refine hb.mono ?_; rintro e w' ⟨rfl, rfl⟩)
          all_goals (go_ret; exact ⟨rfl, Below.refl _ _⟩)
      · clear h
        go_enter Try.func3, Try.ntmps3
        go_wp2_with (go_at_call 6; refine hb.mono ?_; rintro e w' ⟨rfl, rfl⟩)
        all_goals (go_ret; exact ⟨rfl, Below.refl _ _⟩)
    · clear h
      go_enter Try.func3, Try.ntmps3
      go_wp2_with (go_at_call 6; refine hb.mono ?_; rintro e w' ⟨rfl, rfl⟩)
      all_goals (go_ret; exact ⟨rfl, Below.refl _ _⟩)
  · have hfit : fitsB pre.size L tl = false := by simp [fitsB]; omega
    clear h
    go_enter Try.func3, Try.ntmps3
    go_wp2_with (go_at_call 6; refine hb.mono ?_; rintro e w' ⟨rfl, rfl⟩)
    all_goals (go_ret; exact ⟨rfl, Below.refl _ _⟩)
end Go.Proofs.Qxb6612924a
