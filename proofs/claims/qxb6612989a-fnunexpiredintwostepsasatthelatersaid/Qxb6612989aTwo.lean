import Derived.Test.Qxb6612989aFacts
namespace Go.Proofs.Qxb6612989a
open Go.RowKit Go.Deep
set_option linter.unusedVariables false

def fitsB (t u : Nat) : Bool := decide (t + u ≤ 1048576)
theorem bytes9_any (ta : Option Addr) (tl tc : Nat) (ua : Option Addr) (ul uc : Nat) (a b : Int) (w : World) (ht : tl ≤ maxLen) (hu : ul ≤ maxLen) :
    Calls Try.prog 9 #[.slice ta tl tc, .slice ua ul uc, .int .i64 a, .int .i64 b] w fun e w' => e = .returned (.bool (fitsB tl ul)) ∧ w = w' := by
  unfold maxLen at ht hu
  go_enter Try.func9, Try.ntmps9
  go_wp2
  all_goals go_ret
  all_goals refine ⟨congrArg (fun b => Ending.returned (.bool b)) ?_, rfl⟩
  all_goals (unfold fitsB; simp; omega)

set_option maxRecDepth 100000 in
set_option maxHeartbeats 2000000 in
theorem early4 (ta : Option Addr) (tl tc : Nat) (ua : Option Addr) (ul uc : Nat) (a b : Int) (w : World) (ht : tl ≤ maxLen) (hu : ul ≤ maxLen)
    (h : ¬ (tl + ul ≤ 1048576 ∧ tl ≤ 4096 ∧ ul ≤ 4096 ∧ ul = tl)) :
    Calls Try.prog 4 #[.slice ta tl tc, .slice ua ul uc, .int .i64 a, .int .i64 b] w fun e w' => e = .returned (.bool true) ∧ Below w.heap.size w w' := by
  have hb := bytes9_any ta tl tc ua ul uc a b w ht hu
  by_cases g1 : tl + ul ≤ 1048576
  · have hfit : fitsB tl ul = true := by simp [fitsB]; omega
    by_cases g2 : tl ≤ 4096
    · by_cases g3 : ul ≤ 4096
      · have g4 : ((ul : Int) != (tl : Int)) = true := by rw [bne_iff_ne]; omega
        clear h
        go_enter Try.func4, Try.ntmps4
        go_wp2_with (go_at_call 9; refine hb.mono ?_; rintro e w' ⟨rfl, rfl⟩)
        all_goals (go_ret; exact ⟨rfl, Below.refl _ _⟩)
      · clear h
        go_enter Try.func4, Try.ntmps4
        go_wp2_with (go_at_call 9; refine hb.mono ?_; rintro e w' ⟨rfl, rfl⟩)
        all_goals (go_ret; exact ⟨rfl, Below.refl _ _⟩)
    · clear h
      go_enter Try.func4, Try.ntmps4
      go_wp2_with (go_at_call 9; refine hb.mono ?_; rintro e w' ⟨rfl, rfl⟩)
      all_goals (go_ret; exact ⟨rfl, Below.refl _ _⟩)
  · have hfit : fitsB tl ul = false := by simp [fitsB]; omega
    clear h
    go_enter Try.func4, Try.ntmps4
    go_wp2_with (go_at_call 9; refine hb.mono ?_; rintro e w' ⟨rfl, rfl⟩)
    all_goals (go_ret; exact ⟨rfl, Below.refl _ _⟩)

set_option maxRecDepth 100000 in
set_option maxHeartbeats 4000000 in
theorem walk4_main (ta : Option Addr) (n tc : Nat) (zt : List Int) (ua : Option Addr) (uc : Nat) (zu : List Int) (a b : Int) (w : World)
    (hT : IsRow .u64 w ta n tc zt) (hU : IsRow .i64 w ua n uc zu) (g1 : n ≤ 4096) :
    Calls Try.prog 4 #[.slice ta n tc, .slice ua n uc, .int .i64 a, .int .i64 b] w fun e w' => e = .returned (.bool true) ∧ Below w.heap.size w w' := by
  obtain ⟨T, hTT⟩ : ∃ T : Nat → Int, T = fun j => zt.getD j 0 := ⟨_, rfl⟩
  have HT : Hid (T = fun j => zt.getD j 0) := hTT
  obtain ⟨U, hUU⟩ : ∃ U : Nat → Int, U = fun j => zu.getD j 0 := ⟨_, rfl⟩
  have HU : Hid (U = fun j => zu.getD j 0) := hUU
  clear hTT hUU
  have hfit : fitsB n n = true := by simp [fitsB]; omega
  have hnil := fun (w : World) (a : Option Addr) (n c : Nat) => run_neq_slice_nil_any (P := Try.prog) w 22 25 a n c 0 0 Try.underlying22
  have hnil2 := fun (w : World) (a : Option Addr) (n c : Nat) => run_neq_slice_nil_any (P := Try.prog) w 23 2 a n c 0 0 Try.underlying23
  go_enter Try.func4, Try.ntmps4
  go_upto_if 51 with ((go_at_call 9; refine (bytes9_any _ _ _ _ _ _ _ _ _ (by unfold maxLen; omega) (by unfold maxLen; omega)).mono ?_; rintro e w' ⟨rfl, rfl⟩))
  go_cut [0] (fun s wx => Below w.heap.size w wx ∧ ∃ a', s = .slice a' n n ∧ HeldK .u64 wx a' n T)
  case first =>
    -- (
    rcases hT with ⟨rfl, rfl, rfl, rfl⟩ | ⟨xa, rfl, hl, hm, hz, hcell, hwf⟩
    · go_wp2
      go_meet
      exact ⟨Below.refl _ _, none, rfl, fun j hj => by omega⟩
    · have hmk := run_make_row' (P := Try.prog) 22 25 (.int .u64 0) 8 Try.underlying22 Try.info25 rfl .i64 .i64 n (by omega) (by omega)
      obtain ⟨W2, hcp, hbel, hrow, hsz⟩ := copy_fresh (P := Try.prog) w 22 25 3 .u64 n tc xa zt Try.underlying22 (by kernel_rfl) hl hz hcell
      go_wp2
      go_meet
      exact ⟨hbel, _, rfl, fun j hj => ⟨_, rfl, by omega, by rw [HT.out]; exact hrow.cell hj⟩⟩
    -- )
  case rest =>
    obtain ⟨hb1, a1, rfl, hh1⟩ := hcut
    have hU1 := hU.below hb1
    clear hT hU
    go_upto_if 60 with fail
    go_cut [1] (fun s wx => Below w.heap.size w wx ∧ HeldK .u64 wx a1 n T ∧ ∃ a', s = .slice a' n n ∧ HeldK .i64 wx a' n U)
    case first =>
      -- (
      rcases hU1 with ⟨rfl, rfl, rfl, rfl⟩ | ⟨xa, rfl, hl, hm, hz, hcell, hwf⟩
      · go_wp2
        go_meet
        exact ⟨hb1, hh1, none, rfl, fun j hj => by omega⟩
      · have hmk := run_make_row' (P := Try.prog) 23 2 (.int .i64 0) 8 Try.underlying23 Try.info2 rfl .i64 .i64 n (by omega) (by omega)
        obtain ⟨W2, hcp, hbel, hrow, hsz⟩ := copy_fresh (P := Try.prog) wc 23 2 3 .i64 n uc xa zu Try.underlying23 (by kernel_rfl) hl hz hcell
        go_wp2
        go_meet
        exact ⟨hb1.trans (hbel.mono hb1.size), hh1.below hbel, _, rfl, fun j hj => ⟨_, rfl, by omega, by rw [HU.out]; exact hrow.cell hj⟩⟩
      -- )
    case rest =>
      clear hU1 hh1 hb1 hnil hnil2
      obtain ⟨hb2, hh1, a2, rfl, hh2⟩ := hcut
      clear HT HU
      go_wp2_with fail
      go_loopw [11] (fun i wr => ∃ q : Nat, q ≤ n ∧ i = .int .i64 ((q : Int) + 1) ∧ Below wc.heap.size wc wr) (fun i _ => n + 1 - (intOf i).toNat)
      case atStart => exact ⟨0, Nat.zero_le _, rfl, Below.refl _ _⟩
      case round =>
        obtain ⟨q, hq, rfl, hbel⟩ := hrel
        have hh1' := hh1.below hbel
        by_cases hlt : q + 1 < n
        · obtain ⟨b1, rfl, hb1, c1⟩ := hh1' q (by omega)
          obtain ⟨b1', hbb, _, c2⟩ := hh1' (q + 1) hlt
          obtain rfl : b1 = b1' := by simpa using hbb
          have l0 : (q : Int) < (n : Int) := by omega
          have l1 : (q : Int) + 1 < (n : Int) := by omega
          go_wp2
          go_quiet (fail)
          go_wp2
          · go_ret
            exact ⟨rfl, hb2.trans ((below_drewN hbel _).mono hb2.size)⟩
          · go_roundw
            case rel => exact ⟨q + 1, by omega, by go_num, below_drewN hbel _⟩
            case measure => simp [intOf]; omega
        · have hh2' := hh2.below hbel
          have hB0 : Below w.heap.size w wr := hb2.trans (hbel.mono hb2.size)
          clear hh1 hh2 hb2 hbel
          obtain ⟨G, hG⟩ : ∃ G, G = pairs n T U := ⟨_, rfl⟩
          have HG : Hid (G = pairs n T U) := hG
          have hGn : G.length = n := by rw [hG]; exact pairs_length n T U
          have HGn : Hid (G.length = n) := hGn
          have HGu : Hid (∀ j, j < n → (G.getD j (0, 0)).2 = U j) := fun j hj => by rw [hG, pairs_getD n T U j hj]
          clear hG hGn
          obtain ⟨L1, hL1⟩ : ∃ L1, L1 = live a G := ⟨_, rfl⟩
          have HL1 : Hid (L1 = live a G) := hL1
          obtain ⟨mm, hmm⟩ : ∃ mm, mm = if a < b then b else a := ⟨_, rfl⟩
          have HMM : Hid (mm = if a < b then b else a) := hmm
          obtain ⟨L3, hL3⟩ : ∃ L3, L3 = live mm G := ⟨_, rfl⟩
          have HL3 : Hid (L3 = live mm G) := hL3
          have HL3b : Hid (L3 = live b L1) := by show L3 = _; rw [hL3, hL1, live_live a b mm hmm]
          obtain ⟨m1, hm1⟩ : ∃ m1, m1 = L1.length := ⟨_, rfl⟩
          have HM1 : Hid (m1 = L1.length) := hm1
          obtain ⟨c3, hc3⟩ : ∃ c3, c3 = L3.length := ⟨_, rfl⟩
          have HC3 : Hid (c3 = L3.length) := hc3
          have l1 : m1 ≤ n := by have := live_le a G; rw [hm1, hL1]; have := HGn.out; omega
          have l3 : c3 ≤ m1 := by have := live_le b L1; rw [hc3, HL3b.out, hm1]; exact this
          clear hL1 hmm hL3 hm1 hc3
          go_wp2_with fail
          refine (newRecord_any a1 a2 n n n T U wr (by omega) hh1' hh2').mono ?_
          rintro e w1 ⟨r1, k1, hr1, hk1, rfl, hbel1, hrec1⟩
          have hrec1' : RecAt w1 r1 k1 G.length (fun j => G.getD j (0, 0)) := by rw [HG.out]; exact recAt_pairs hrec1
          clear hrec1
          go_wp2_with fail
          refine (ZZunexpired_at r1 k1 G a w1 (by have := HGn.out; omega) hrec1' L1 m1 n HL1.out HM1.out HGn.out.symm).mono ?_
          rintro e w2 ⟨t1, u1, ht1, hu1, rfl, hbut2, hrt1, hru1, _⟩
          have hB2 : Below wr.heap.size wr w2 := But.below hbel1 hbut2 hbel1.size hk1
          clear hrec1' hbut2 hbel1 ht1 hu1 hr1 hk1
          go_wp2_with fail
          refine (newRecord_any (some ⟨t1, 0, none⟩) (some ⟨u1, 0, none⟩) m1 m1 m1 (fun j => (L1.getD j (0, 0)).1) (fun j => (L1.getD j (0, 0)).2) w2 (by omega) (heldK_row hrt1) (heldK_row hru1)).mono ?_
          rintro e w3 ⟨r2, k2, hr2, hk2, rfl, hbel3, hrec2⟩
          have hrec2' : RecAt w3 r2 k2 L1.length (fun j => L1.getD j (0, 0)) := by rw [← HM1.out]; exact hrec2
          clear hrec2 hrt1 hru1
          go_wp2_with fail
          refine (ZZunexpired_at r2 k2 L1 b w3 (by have := HM1.out; omega) hrec2' L3 c3 m1 HL3b.out HC3.out HM1.out).mono ?_
          rintro e w4 ⟨t2, u2, ht2, hu2, rfl, hbut4, hrt2, hru2, _⟩
          have hB4 : Below wr.heap.size wr w4 := hB2.trans ((But.below hbel3 hbut4 hbel3.size hk2).mono hB2.size)
          clear hrec2' hbut4 hbel3 ht2 hu2 hr2 hk2 hB2
          go_upto_if 109 with fail
          go_cut [22] (fun s wx => s = .int .i64 mm ∧ w4 = wx)
          case first =>
            by_cases hab : a < b
            · have e1 : b = mm := by rw [HMM.out, if_pos hab]
              go_wp2
              go_meet
              exact ⟨by first | rfl | rw [e1], rfl⟩
            · have e1 : a = mm := by rw [HMM.out, if_neg hab]
              have HE : Hid (a = mm) := e1
              clear e1
              go_wp2
              go_meet
              exact ⟨by rw [HE.out], rfl⟩
          case rest =>
            obtain ⟨rfl, rfl⟩ := hcut
            go_wp2_with fail
            refine (newRecord_any a1 a2 n n n T U w4 (by omega) (hh1'.below hB4) (hh2'.below hB4)).mono ?_
            rintro e w5 ⟨r3, k3, hr3, hk3, rfl, hbel5, hrec3⟩
            have hrec3' : RecAt w5 r3 k3 G.length (fun j => G.getD j (0, 0)) := by rw [HG.out]; exact recAt_pairs hrec3
            clear hrec3
            go_wp2_with fail
            refine (ZZunexpired_at r3 k3 G mm w5 (by have := HGn.out; omega) hrec3' L3 c3 n HL3.out HC3.out HGn.out.symm).mono ?_
            rintro e w6 ⟨t3, u3, ht3, hu3, rfl, hbut6, hrt3, hru3, _⟩
            have hB6 : Below w4.heap.size w4 w6 := But.below hbel5 hbut6 hbel5.size hk3
            have hrt2' : w6.rowIs t2 25 c3 (fun j => .int .u64 (L3.getD j (0, 0)).1) := hrt2.of_block (hB6.block _ hrt2.lt)
            have hru2' : w6.rowIs u2 2 c3 (fun j => .int .i64 (L3.getD j (0, 0)).2) := hru2.of_block (hB6.block _ hru2.lt)
            have hB06 : Below wr.heap.size wr w6 := hB4.trans (hB6.mono hB4.size)
            have hh2c := hh2'.below hB06
            have hBB : Below w.heap.size w w6 := hB0.trans (hB06.mono hB0.size)
            clear hrec3' hbut6 hbel5 ht3 hu3 hr3 hk3 hrt2 hru2 hB4 hB6 hB06 hh1' hh2' hB0 HL3b HM1 HL1 HMM HG
            go_wp2_with fail
            go_loop [28, 29] (fun l i => ∃ k c : Nat, k ≤ n ∧ i = .int .i64 k ∧ l = .int .i64 c ∧ c ≤ k ∧ Hid (c = (live mm (G.take k)).length)) (fun _ i => n - (intOf i).toNat)
            case atStart => exact ⟨0, 0, Nat.zero_le _, rfl, rfl, Nat.le_refl _, rfl⟩
            case round =>
              obtain ⟨k, c, hk, rfl, rfl, hck, HC⟩ := hrel
              by_cases hlk : k < n
              · obtain ⟨bu, rfl, hbs, cu⟩ := hh2c k hlk
                by_cases hu : mm < U k
                · have HC2 : Hid (c + 1 = (live mm (G.take (k + 1))).length) := by
                    show c + 1 = _
                    rw [live_yes mm G k (by have := HGn.out; omega) (by rw [HGu.out k hlk]; exact hu), List.length_append, ← HC.out]; rfl
                  go_wp2
                  go_round
                  case rel => exact ⟨k + 1, c + 1, by omega, by go_num, by go_num, by omega, HC2⟩
                  case measure => simp [intOf]; omega
                · have HC2 : Hid (c = (live mm (G.take (k + 1))).length) := by
                    show c = _
                    rw [live_no mm G k (by have := HGn.out; omega) (by rw [HGu.out k hlk]; exact hu)]; exact HC.out
                  go_wp2
                  go_round
                  case rel => exact ⟨k + 1, c, by omega, by go_num, by go_num, by omega, HC2⟩
                  case measure => simp [intOf]; omega
              · obtain rfl : c = c3 := by
                  have h1 := HC.out
                  rw [List.take_of_length_le (by have := HGn.out; omega)] at h1
                  rw [h1, HC3.out, HL3.out]
                have e1 : (((c : Nat) : Int) != ((c : Nat) : Int)) = false := by simp
                have e2 : (((n : Nat) : Int) - ((c : Nat) : Int) != ((n : Nat) : Int) - ((c : Nat) : Int)) = false := by simp
                have e3 : (decide (c = 0) == (((c : Nat) : Int) == 0)) = true := by
                  by_cases h : c = 0
                  · subst h; rfl
                  · have h2 : (((c : Nat) : Int) == 0) = false := by simp; omega
                    rw [h2]; simp [h]
                have e4 : (((n : Nat) : Int) - ((m1 : Nat) : Int) + (((m1 : Nat) : Int) - ((c : Nat) : Int)) != ((n : Nat) : Int) - ((c : Nat) : Int)) = false := by
                  rw [bne_eq_false_iff_eq]; omega
                have e5 : (decide (c = 0) != decide (c = 0)) = false := by simp
                clear hh2c HC HC3 HL3 HGu HGn
                go_wp2_with fail
                go_loopw [30] (fun i wr => ∃ k : Nat, k ≤ c ∧ i = .int .i64 k ∧ Below w6.heap.size w6 wr) (fun i _ => c - (intOf i).toNat)
                case atStart => exact ⟨0, Nat.zero_le _, rfl, Below.refl _ _⟩
                case round =>
                  obtain ⟨j, hj, rfl, hbl⟩ := hrel
                  by_cases hlj : j < c
                  · obtain ⟨p, hp⟩ : ∃ p, p = L3.getD j (0, 0) := ⟨_, rfl⟩
                    have x1 : wr.cell? ⟨t2, j, none⟩ = some (.int .u64 p.1) := by rw [hbl.cell (p := ⟨t2, j, none⟩) hrt2'.lt, hrt2'.cell hlj, hp]
                    have x2 : wr.cell? ⟨u2, j, none⟩ = some (.int .i64 p.2) := by rw [hbl.cell (p := ⟨u2, j, none⟩) hru2'.lt, hru2'.cell hlj, hp]
                    have x3 : wr.cell? ⟨t3, j, none⟩ = some (.int .u64 p.1) := by rw [hbl.cell (p := ⟨t3, j, none⟩) hrt3.lt, hrt3.cell hlj, hp]
                    have x4 : wr.cell? ⟨u3, j, none⟩ = some (.int .i64 p.2) := by rw [hbl.cell (p := ⟨u3, j, none⟩) hru3.lt, hru3.cell hlj, hp]
                    have l0 : (j : Int) < (c : Int) := by omega
                    have y1 : (p.1 != p.1) = false := by simp
                    have y2 : (p.2 != p.2) = false := by simp
                    clear hp hrt2' hru2' hrt3 hru3
                    go_wp2
                    go_quiet (fail)
                    go_wp2
                    go_roundw
                    case rel => exact ⟨j + 1, by omega, by go_num, below_drewN hbl _⟩
                    case measure => simp [intOf]; omega
                  · go_wp2
                    go_ret
                    exact ⟨rfl, hBB.trans (hbl.mono hBB.size)⟩

theorem walk4 (ta : Option Addr) (tl tc : Nat) (zt : List Int) (ua : Option Addr) (ul uc : Nat) (zu : List Int) (a b : Int) (w : World)
    (hT : IsRow .u64 w ta tl tc zt) (hU : IsRow .i64 w ua ul uc zu) :
    Calls Try.prog 4 #[.slice ta tl tc, .slice ua ul uc, .int .i64 a, .int .i64 b] w fun e w' => e = .returned (.bool true) ∧ Below w.heap.size w w' := by
  by_cases h : tl + ul ≤ 1048576 ∧ tl ≤ 4096 ∧ ul ≤ 4096 ∧ ul = tl
  · obtain ⟨h1, h2, h3, rfl⟩ := h
    exact walk4_main ta ul tc zt ua uc zu a b w hT hU h2
  · exact early4 ta tl tc ua ul uc a b w hT.len hU.len h
end Go.Proofs.Qxb6612989a
