import Derived.Test.Qxb6612924aFacts
namespace Go.Proofs.Qxb6612924a
open Go.RowKit Go.Deep
set_option linter.unusedVariables false

/-- do the four lengths sum to at most 1<<20 -/
def fits4B (p d t q : Nat) : Bool := decide (p + d + t + q ≤ 1048576)
theorem bytes4_any (pre : ByteArray) (field : Int) (x y nn : Nat) (a : Option Addr) (L C : Nat) (ta : Option Addr) (tl tc : Nat) (idf : Nat) (np : Int) (pre2 : ByteArray) (field2 : Int) (w : World)
    (hp : pre.size ≤ maxLen) (hd : L ≤ maxLen) (ht : tl ≤ maxLen) (hq : pre2.size ≤ maxLen) :
    Calls Try.prog 11 #[.string pre, .int .i64 field, .float .f64 x, .float .f64 y, .float .f64 nn, .slice a L C, .slice ta tl tc, .float .f64 idf, .int .i64 np, .string pre2, .int .i64 field2] w fun e w' =>
      e = .returned (.bool (fits4B pre.size L tl pre2.size)) ∧ w = w' := by
  unfold maxLen at hp hd ht hq
  go_enter Try.func11, Try.ntmps11
  go_wp2
  all_goals go_ret
  all_goals refine ⟨congrArg (fun b => Ending.returned (.bool b)) ?_, rfl⟩
  all_goals (unfold fits4B; simp; omega)

set_option maxRecDepth 100000 in
set_option maxHeartbeats 2000000 in
theorem early4 (pre : ByteArray) (field : Int) (x y nn : Nat) (a : Option Addr) (L C : Nat) (ta : Option Addr) (tl tc : Nat) (idf : Nat) (np : Int) (pre2 : ByteArray) (field2 : Int) (w : World)
    (hp : pre.size ≤ maxLen) (hL : L ≤ maxLen) (htl : tl ≤ maxLen) (hq : pre2.size ≤ maxLen)
    (h : ¬ (pre.size + L + tl + pre2.size ≤ 1048576 ∧ pre.size ≤ 65536 ∧ pre2.size ≤ 65536 ∧ L ≤ 65536 ∧ tl ≤ 65536 ∧ pre.size + pre2.size + 4 * L + 4 * tl ≤ 1048576)) :
    Calls Try.prog 4 #[.string pre, .int .i64 field, .float .f64 x, .float .f64 y, .float .f64 nn, .slice a L C, .slice ta tl tc, .float .f64 idf, .int .i64 np, .string pre2, .int .i64 field2] w fun e w' =>
      e = .returned (.bool true) ∧ Below w.heap.size w w' := by
  have hb := bytes4_any pre field x y nn a L C ta tl tc idf np pre2 field2 w hp hL htl hq
  by_cases g1 : pre.size + L + tl + pre2.size ≤ 1048576
  · have hfit : fits4B pre.size L tl pre2.size = true := by simp [fits4B]; omega
    by_cases g2 : pre.size ≤ 65536
    · by_cases g2' : pre2.size ≤ 65536
      · by_cases g3 : L ≤ 65536
        · by_cases g4 : tl ≤ 65536
          · have g5 : ¬ (pre.size + pre2.size + 4 * L + 4 * tl ≤ 1048576) := by omega
            clear h
            go_enter Try.func4, Try.ntmps4
            go_wp2_with (go_at_call 11; refine hb.mono ?_; rintro e w' ⟨rfl, rfl⟩)
            all_goals (go_ret; exact ⟨rfl, Below.refl _ _⟩)
          · clear h
            go_enter Try.func4, Try.ntmps4
            go_wp2_with (go_at_call 11; refine hb.mono ?_; rintro e w' ⟨rfl, rfl⟩)
            all_goals (go_ret; exact ⟨rfl, Below.refl _ _⟩)
        · clear h
          go_enter Try.func4, Try.ntmps4
          go_wp2_with (go_at_call 11; refine hb.mono ?_; rintro e w' ⟨rfl, rfl⟩)
          all_goals (go_ret; exact ⟨rfl, Below.refl _ _⟩)
      · clear h
        go_enter Try.func4, Try.ntmps4
        go_wp2_with (go_at_call 11; refine hb.mono ?_; rintro e w' ⟨rfl, rfl⟩)
        all_goals (go_ret; exact ⟨rfl, Below.refl _ _⟩)
    · clear h
      go_enter Try.func4, Try.ntmps4
      go_wp2_with (go_at_call 11; refine hb.mono ?_; rintro e w' ⟨rfl, rfl⟩)
      all_goals (go_ret; exact ⟨rfl, Below.refl _ _⟩)
  · have hfit : fits4B pre.size L tl pre2.size = false := by simp [fits4B]; omega
    clear h
    go_enter Try.func4, Try.ntmps4
    go_wp2_with (go_at_call 11; refine hb.mono ?_; rintro e w' ⟨rfl, rfl⟩)
    all_goals (go_ret; exact ⟨rfl, Below.refl _ _⟩)

set_option maxRecDepth 100000 in
set_option maxHeartbeats 2000000 in
theorem walk4_main (pre : ByteArray) (field : Int) (x y nn : Nat) (a : Option Addr) (L C : Nat) (zd : List Int) (ta : Option Addr) (tl tc : Nat) (zt : List Int) (idf : Nat) (np : Int) (pre2 : ByteArray) (field2 : Int) (w : World)
    (hD : IsRow .i32 w a L C zd) (hT : IsRow .i32 w ta tl tc zt)
    (g1 : pre.size + L + tl + pre2.size ≤ 1048576) (g2 : pre.size ≤ 65536) (g2' : pre2.size ≤ 65536) (g3 : L ≤ 65536) (g4 : tl ≤ 65536) (g5 : pre.size + pre2.size + 4 * L + 4 * tl ≤ 1048576) :
    Calls Try.prog 4 #[.string pre, .int .i64 field, .float .f64 x, .float .f64 y, .float .f64 nn, .slice a L C, .slice ta tl tc, .float .f64 idf, .int .i64 np, .string pre2, .int .i64 field2] w fun e w' =>
      e = .returned (.bool true) ∧ Below w.heap.size w w' := by
  obtain ⟨Z, hZ⟩ : ∃ Z : Nat → Int, Z = fun j => zd.getD j 0 := ⟨_, rfl⟩
  have HZ : Hid (Z = fun j => zd.getD j 0) := hZ
  clear hZ
  have hfit : fits4B pre.size L tl pre2.size = true := by simp [fits4B]; omega
  have hnil := fun (w : World) (a : Option Addr) (n c : Nat) => run_neq_slice_nil_any (P := Try.prog) w 23 21 a n c 0 0 Try.underlying23
  go_enter Try.func4, Try.ntmps4
  go_upto_if 79 with ((go_at_call 11; refine (bytes4_any _ _ _ _ _ _ _ _ _ _ _ _ _ _ _ _ (by unfold maxLen; omega) (by unfold maxLen; omega) (by unfold maxLen; omega) (by unfold maxLen; omega)).mono ?_; rintro e w' ⟨rfl, rfl⟩))
  go_cut [5] (fun s5 wx => Below w.heap.size w wx ∧ ∃ a', s5 = .slice a' L L ∧ Held w.heap.size wx a' L Z)
  case first =>
    rcases hD with ⟨rfl, rfl, rfl, rfl⟩ | ⟨xa, rfl, hl, hm, hz, hcell, hwf⟩
    · go_wp2
      go_meet
      exact ⟨Below.refl _ _, none, rfl, fun j hj => by omega⟩
    · have hmk := run_make_row' (P := Try.prog) 23 21 (.int .i32 0) 4 Try.underlying23 Try.info21 rfl .i64 .i64 L (by omega) (by omega)
      obtain ⟨W2, hcp, hbel, hrow, hsz⟩ := copy_fresh (P := Try.prog) w 23 21 3 .i32 L C xa zd Try.underlying23 (by kernel_rfl) hl hz hcell
      go_wp2
      go_meet
      exact ⟨hbel, _, rfl, fun j hj => ⟨_, rfl, Nat.le_refl _, by omega, by rw [HZ.out]; exact hrow.cell hj⟩⟩
  case rest =>
    obtain ⟨hb1, a1, rfl, hheld⟩ := hcut
    have hT1 := hT.below hb1
    clear hT hD
    go_upto_if 88 with fail
    go_cut [6] (fun s6 wx => Below w.heap.size w wx ∧ Held w.heap.size wx a1 L Z ∧ ∃ a n c, s6 = .slice a n c)
    case first =>
      rcases hT1 with ⟨rfl, rfl, rfl, rfl⟩ | ⟨xa, rfl, hl, hm, hz, hcell, hwf⟩
      · go_wp2
        go_meet
        exact ⟨hb1, hheld, none, 0, 0, rfl⟩
      · have hmk := run_make_row' (P := Try.prog) 23 21 (.int .i32 0) 4 Try.underlying23 Try.info21 rfl .i64 .i64 tl (by omega) (by omega)
        obtain ⟨W2, hcp, hbel, hrow, hsz⟩ := copy_fresh (P := Try.prog) wc 23 21 3 .i32 tl tc xa zt Try.underlying23 (by kernel_rfl) hl hz hcell
        go_wp2
        go_meet
        exact ⟨hb1.trans (hbel.mono hb1.size), hheld.below hbel, _, _, _, rfl⟩
    case rest =>
      clear hT1 hheld hb1 hnil
      obtain ⟨hb2, hheld, a2, n2, c2, rfl⟩ := hcut
      go_upto_region 15 with fail
      go_cut [25] (fun s25 wx => Below w.heap.size w wx ∧ Held w.heap.size wx a1 L Z ∧ ∃ s, s25 = .float .f64 s ∧ Prodf x y s)
      case first =>
        cases hm : FloatKind.f64.format.mul x y with
        | some r =>
          have hmul : ∀ w : World, (binOp .mul 22 (.float .f64 x) (.float .f64 y)).run Try.prog w = .ok (.float .f64 r) w := fun w => run_float_arith w .mul 22 .f64 x y r hm
          go_wp2
          go_meet
          exact ⟨hb2, hheld, _, rfl, .inl ⟨r, hm, rfl⟩⟩
        | none =>
          have hmul := run_mul_none x y hm
          go_wp2
          go_meet
          exact ⟨hb2.drew, hheld, _, rfl, .inr ⟨hm, nanAt_isNaN x y _⟩⟩
      case rest =>
        clear hheld hb2
        obtain ⟨hb3, hheld, sw, rfl, hsw⟩ := hcut
        go_wp2_with fail
        refine (ZZScored_any pre field x y nn idf a1 L L a2 n2 c2 np Z _ (by omega) ?_).mono ?_
        · intro j hj
          obtain ⟨b, h1, h2, h3, h4⟩ := hheld j hj
          exact ⟨b, 0, h1, h3, by rw [Nat.zero_add]; exact h4⟩
        rintro e w1 ⟨b1, hb1, rfl, hbel1, f1, hrow1, hok1⟩
        have hheld1 := hheld.below hbel1
        have hB1 := hb3.trans (hbel1.mono hb3.size)
        clear hheld
        go_wp2_with fail
        refine (ZZScored_any pre2 field2 y x 0 0 a1 L L none 0 0 0 Z _ (by omega) ?_).mono ?_
        · intro j hj
          obtain ⟨b, h1, h2, h3, h4⟩ := hheld1 j hj
          exact ⟨b, 0, h1, h3, by rw [Nat.zero_add]; exact h4⟩
        rintro e w2 ⟨b2, hb2, rfl, hbel2, f2, hr2, hok2⟩
        have hheld := hheld1.below hbel2
        have hB3 := hB1.trans (hbel2.mono hB1.size)
        have hr1 : w2.rowIs b1 48 (L * 2) f1 := hrow1.of_block (hbel2.block _ hrow1.lt)
        clear hheld1 hrow1 hbel1 hb1 hb2 hb3 hB1 hbel2
        have e1 : (((L : Nat) : Int) != ((L : Nat) : Int)) = false := by simp
        go_wp2_with fail
        go_loop [28] (fun i => ∃ k : Nat, k ≤ L ∧ i = .int .i64 k) (fun i => L - (intOf i).toNat)
        case atStart => exact ⟨0, Nat.zero_le _, rfl⟩
        case round =>
          obtain ⟨k, hk, rfl⟩ := hrel
          by_cases hlt : k < L
          · obtain ⟨q1, s1, p1, q2⟩ := hok1 k hlt
            obtain ⟨q3, s2, p2, q4⟩ := hok2 k hlt
            obtain ⟨b, rfl, hbb, hbs, hcd⟩ := hheld k hlt
            have c1 : w2.cell? ⟨b1, k * 2, none⟩ = some (.int .i32 (Z k)) := by rw [hr1.cell (by omega), q1]
            have c2 : w2.cell? ⟨b1, k * 2 + 1, none⟩ = some (.float .f64 s1) := by rw [hr1.cell (by omega), q2]
            have c3 : w2.cell? ⟨b2, k * 2, none⟩ = some (.int .i32 (Z k)) := by rw [hr2.cell (by omega), q3]
            have c4 : w2.cell? ⟨b2, k * 2 + 1, none⟩ = some (.float .f64 s2) := by rw [hr2.cell (by omega), q4]
            have m1 : sameB s1 sw = true := same_of_prod p1 hsw
            have m2 : sameB s2 s1 = true := same_of_prod p2.swap p1
            have zz : (Z k != Z k) = false := by simp
            clear q1 q2 q3 q4 p1 p2 hr1 hr2 hok1 hok2 hheld HZ
            go_wp2_with fail
            refine (doc_any b1 L L _ k rfl (Z k) _ hlt (by omega) c1).mono ?_
            rintro e w' ⟨rfl, rfl⟩
            go_wp2_with fail
            refine (score_any b1 L L _ k rfl s1 _ hlt (by omega) c2).mono ?_
            rintro e w' ⟨rfl, rfl⟩
            go_wp2_with fail
            refine (doc_any b2 L L _ k rfl (Z k) _ hlt (by omega) c3).mono ?_
            rintro e w' ⟨rfl, rfl⟩
            go_wp2_with fail
            refine (score_any b2 L L _ k rfl s2 _ hlt (by omega) c4).mono ?_
            rintro e w' ⟨rfl, rfl⟩
            go_wp2_with fail
            refine (same_any s1 sw _).mono ?_
            rintro e w' ⟨rfl, rfl⟩
            go_wp2_with fail
            refine (same_any s2 s1 _).mono ?_
            rintro e w' ⟨rfl, rfl⟩
            go_wp2_with fail
            go_round
            case rel => exact ⟨k + 1, by omega, by go_num⟩
            case measure => simp [intOf]; omega
          · go_wp2
            go_ret
            exact ⟨rfl, hB3⟩

theorem walk4 (pre : ByteArray) (field : Int) (x y nn : Nat) (a : Option Addr) (L C : Nat) (zd : List Int) (ta : Option Addr) (tl tc : Nat) (zt : List Int) (idf : Nat) (np : Int) (pre2 : ByteArray) (field2 : Int) (w : World)
    (hp : pre.size ≤ maxLen) (hD : IsRow .i32 w a L C zd) (hT : IsRow .i32 w ta tl tc zt) (hq : pre2.size ≤ maxLen) :
    Calls Try.prog 4 #[.string pre, .int .i64 field, .float .f64 x, .float .f64 y, .float .f64 nn, .slice a L C, .slice ta tl tc, .float .f64 idf, .int .i64 np, .string pre2, .int .i64 field2] w fun e w' =>
      e = .returned (.bool true) ∧ Below w.heap.size w w' := by
  by_cases h : pre.size + L + tl + pre2.size ≤ 1048576 ∧ pre.size ≤ 65536 ∧ pre2.size ≤ 65536 ∧ L ≤ 65536 ∧ tl ≤ 65536 ∧ pre.size + pre2.size + 4 * L + 4 * tl ≤ 1048576
  · obtain ⟨g1, g2, g2', g3, g4, g5⟩ := h
    exact walk4_main pre field x y nn a L C zd ta tl tc zt idf np pre2 field2 w hD hT g1 g2 g2' g3 g4 g5
  · exact early4 pre field x y nn a L C ta tl tc idf np pre2 field2 w hp hD.len hT.len hq h
end Go.Proofs.Qxb6612924a
