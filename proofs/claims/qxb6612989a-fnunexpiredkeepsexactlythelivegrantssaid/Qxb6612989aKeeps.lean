import Derived.Test.Qxb6612989aPlain
namespace Go.Proofs.Qxb6612989a
open Go.RowKit Go.Deep
set_option linter.unusedVariables false

def fitsB (t u : Nat) : Bool := decide (t + u ≤ 1048576)
theorem bytes5_any (ta : Option Addr) (tl tc : Nat) (ua : Option Addr) (ul uc : Nat) (a : Int) (w : World) (ht : tl ≤ maxLen) (hu : ul ≤ maxLen) :
    Calls Try.prog 5 #[.slice ta tl tc, .slice ua ul uc, .int .i64 a] w fun e w' => e = .returned (.bool (fitsB tl ul)) ∧ w = w' := by
  unfold maxLen at ht hu
  go_enter Try.func5, Try.ntmps5
  go_wp2
  all_goals go_ret
  all_goals refine ⟨congrArg (fun b => Ending.returned (.bool b)) ?_, rfl⟩
  all_goals (unfold fitsB; simp; omega)

set_option maxRecDepth 100000 in
set_option maxHeartbeats 2000000 in
theorem early3 (ta : Option Addr) (tl tc : Nat) (ua : Option Addr) (ul uc : Nat) (a : Int) (w : World) (ht : tl ≤ maxLen) (hu : ul ≤ maxLen)
    (h : ¬ (tl + ul ≤ 1048576 ∧ tl ≤ 4096 ∧ ul ≤ 4096 ∧ ul = tl)) :
    Calls Try.prog 3 #[.slice ta tl tc, .slice ua ul uc, .int .i64 a] w fun e w' => e = .returned (.bool true) ∧ Below w.heap.size w w' := by
  have hb := bytes5_any ta tl tc ua ul uc a w ht hu
  by_cases g1 : tl + ul ≤ 1048576
  · have hfit : fitsB tl ul = true := by simp [fitsB]; omega
    by_cases g2 : tl ≤ 4096
    · by_cases g3 : ul ≤ 4096
      · have g4 : ((ul : Int) != (tl : Int)) = true := by rw [bne_iff_ne]; omega
        clear h
        go_enter Try.func3, Try.ntmps3
        go_wp2_with (go_at_call 5; refine hb.mono ?_; rintro e w' ⟨rfl, rfl⟩)
        all_goals (go_ret; exact ⟨rfl, Below.refl _ _⟩)
      · clear h
        go_enter Try.func3, Try.ntmps3
        go_wp2_with (go_at_call 5; refine hb.mono ?_; rintro e w' ⟨rfl, rfl⟩)
        all_goals (go_ret; exact ⟨rfl, Below.refl _ _⟩)
    · clear h
      go_enter Try.func3, Try.ntmps3
      go_wp2_with (go_at_call 5; refine hb.mono ?_; rintro e w' ⟨rfl, rfl⟩)
      all_goals (go_ret; exact ⟨rfl, Below.refl _ _⟩)
  · have hfit : fitsB tl ul = false := by simp [fitsB]; omega
    clear h
    go_enter Try.func3, Try.ntmps3
    go_wp2_with (go_at_call 5; refine hb.mono ?_; rintro e w' ⟨rfl, rfl⟩)
    all_goals (go_ret; exact ⟨rfl, Below.refl _ _⟩)

set_option maxRecDepth 100000 in
set_option maxHeartbeats 6000000 in
theorem walk3_main (ta : Option Addr) (n tc : Nat) (zt : List Int) (ua : Option Addr) (uc : Nat) (zu : List Int) (now : Int) (w : World)
    (hT : IsRow .u64 w ta n tc zt) (hU : IsRow .i64 w ua n uc zu) (g1 : n ≤ 4096) :
    Calls Try.prog 3 #[.slice ta n tc, .slice ua n uc, .int .i64 now] w fun e w' => e = .returned (.bool true) ∧ Below w.heap.size w w' := by
  obtain ⟨T, hTT⟩ : ∃ T : Nat → Int, T = fun j => zt.getD j 0 := ⟨_, rfl⟩
  have HT : Hid (T = fun j => zt.getD j 0) := hTT
  obtain ⟨U, hUU⟩ : ∃ U : Nat → Int, U = fun j => zu.getD j 0 := ⟨_, rfl⟩
  have HU : Hid (U = fun j => zu.getD j 0) := hUU
  clear hTT hUU
  have hfit : fitsB n n = true := by simp [fitsB]; omega
  have hnil := fun (w : World) (a : Option Addr) (n c : Nat) => run_neq_slice_nil_any (P := Try.prog) w 22 25 a n c 0 0 Try.underlying22
  have hnil2 := fun (w : World) (a : Option Addr) (n c : Nat) => run_neq_slice_nil_any (P := Try.prog) w 23 2 a n c 0 0 Try.underlying23
  go_enter Try.func3, Try.ntmps3
  go_upto_if 41 with ((go_at_call 5; refine (bytes5_any _ _ _ _ _ _ _ _ (by unfold maxLen; omega) (by unfold maxLen; omega)).mono ?_; rintro e w' ⟨rfl, rfl⟩))
  go_cut [0] (fun s wx => Below w.heap.size w wx ∧ ∃ a', s = .slice a' n n ∧ HeldK .u64 wx a' n T)
  case first =>
    as_aux_lemma =>
      -- (
      rcases hT with ⟨rfl, rfl, rfl, rfl⟩ | ⟨xa, rfl, hl, hm, hz, hcell, hwf⟩
      · go_wp2
        go_meet
        exact ⟨Below.refl _ _, none, rfl, fun j hj => by omega⟩
      · have hmk := run_make_row' (P := Try.prog) 22 25 (.int .u64 0) 8 Try.underlying22 Try.info25 rfl .i64 .i64 n (by omega) (by omega)
        obtain ⟨W2, hcp, hbel, hrow, hsz⟩ := copy_fresh (P := Try.prog) w 22 25 3 .u64 n tc xa zt Try.underlying22 (by kernel_rfl) hl hz hcell
        go_wp2
        go_meet
        exact ⟨hbel, _, rfl, fun j hj => ⟨_, rfl, by omega, by rw [HT.out]; exact hrow.cell hj⟩⟩
      -- )
  case rest =>
    obtain ⟨hb1, a1, rfl, hh1⟩ := hcut
    have hU1 := hU.below hb1
    clear hT hU
    go_upto_if 50 with fail
    go_cut [1] (fun s wx => Below w.heap.size w wx ∧ HeldK .u64 wx a1 n T ∧ ∃ a', s = .slice a' n n ∧ HeldK .i64 wx a' n U)
    case first =>
      as_aux_lemma =>
        -- (
        rcases hU1 with ⟨rfl, rfl, rfl, rfl⟩ | ⟨xa, rfl, hl, hm, hz, hcell, hwf⟩
        · go_wp2
          go_meet
          exact ⟨hb1, hh1, none, rfl, fun j hj => by omega⟩
        · have hmk := run_make_row' (P := Try.prog) 23 2 (.int .i64 0) 8 Try.underlying23 Try.info2 rfl .i64 .i64 n (by omega) (by omega)
          obtain ⟨W2, hcp, hbel, hrow, hsz⟩ := copy_fresh (P := Try.prog) wc 23 2 3 .i64 n uc xa zu Try.underlying23 (by kernel_rfl) hl hz hcell
          go_wp2
          go_meet
          exact ⟨hb1.trans (hbel.mono hb1.size), hh1.below hbel, _, rfl, fun j hj => ⟨_, rfl, by omega, by rw [HU.out]; exact hrow.cell hj⟩⟩
        -- )
    case rest =>
      clear hU1 hh1 hb1 hnil hnil2
      obtain ⟨hb2, hh1, a2, rfl, hh2⟩ := hcut
      clear HT HU
      go_wp2_with fail
      go_loopw [9] (fun i wr => ∃ q : Nat, q ≤ n ∧ i = .int .i64 ((q : Int) + 1) ∧ Below wc.heap.size wc wr ∧ Hid (∀ j, j + 1 < q + 1 → j + 1 < n → T j < T (j + 1))) (fun i _ => n + 1 - (intOf i).toNat)
      case atStart => exact ⟨0, Nat.zero_le _, rfl, Below.refl _ _, fun j h1 h2 => by omega⟩
      case round =>
        obtain ⟨q, hq, rfl, hbel, HR⟩ := hrel
        have hh1' := hh1.below hbel
        by_cases hlt : q + 1 < n
        · as_aux_lemma =>
            obtain ⟨b1, rfl, hb1, c1⟩ := hh1' q (by omega)
            obtain ⟨b1', hbb, _, c2⟩ := hh1' (q + 1) hlt
            obtain rfl : b1 = b1' := by simpa using hbb
            have l0 : (q : Int) < (n : Int) := by omega
            have l1 : (q : Int) + 1 < (n : Int) := by omega
            by_cases hle : T (q + 1) ≤ T q
            · go_wp2
              go_quiet (fail)
              go_wp2
              go_ret
              exact ⟨rfl, hb2.trans ((below_drewN hbel _).mono hb2.size)⟩
            · have HR2 : Hid (∀ j, j + 1 < q + 1 + 1 → j + 1 < n → T j < T (j + 1)) := by
                intro j h1 h2
                by_cases e : j = q
                · subst e; omega
                · exact HR.out j (by omega) h2
              go_wp2
              go_quiet (fail)
              go_wp2
              go_roundw
              case rel => exact ⟨q + 1, by omega, by go_num, below_drewN hbel _, HR2⟩
              case measure => simp [intOf]; omega
        · have hh2' := hh2.below hbel
          have hB0 : Below w.heap.size w wr := hb2.trans (hbel.mono hb2.size)
          have HRn : Hid (∀ i k, i < k → k < n → T i < T k) := rising_lt (fun j hj => HR.out j (by omega) hj)
          clear hh1 hh2 hb2 hbel HR
          obtain ⟨G, hG⟩ : ∃ G, G = pairs n T U := ⟨_, rfl⟩
          have HG : Hid (G = pairs n T U) := hG
          have hGn : G.length = n := by rw [hG]; exact pairs_length n T U
          have HGn : Hid (G.length = n) := hGn
          have HGg : Hid (∀ j, j < n → G.getD j (0, 0) = (T j, U j)) := fun j hj => by rw [hG, pairs_getD n T U j hj]
          obtain ⟨L, hL⟩ : ∃ L, L = live now G := ⟨_, rfl⟩
          have HL : Hid (L = live now G) := hL
          obtain ⟨c, hc⟩ : ∃ c, c = L.length := ⟨_, rfl⟩
          have HC : Hid (c = L.length) := hc
          have lc : c ≤ n := by have := live_le now G; rw [hc, hL]; omega
          obtain ⟨I, hI⟩ : ∃ I : Nat → Nat, I = fun j => (liveIdx now n U).getD j 0 := ⟨_, rfl⟩
          have hcl : c = (liveIdx now n U).length := by rw [hc, hL, hG]; exact liveIdx_len now n T U
          have HLI : Hid (∀ j, j < c → L.getD j (0, 0) = (T (I j), U (I j))) := fun j hj => by rw [hI, hL, hG]; exact liveIdx_get now n T U j (by rw [← hG, ← hL, ← hc]; exact hj)
          have HIn : Hid (∀ j, j < c → I j < n ∧ now < U (I j)) := fun j hj => by rw [hI]; exact liveIdx_mem now n U j (by omega)
          have HIm : Hid (∀ j k, j < k → k < c → I j < I k) := fun j k h1 h2 => by rw [hI]; exact liveIdx_mono now n U j k h1 (by omega)
          clear hG hGn hL hc hI hcl
          go_wp2_with fail
          refine (newRecord_any a1 a2 n n n T U wr (by omega) hh1' hh2').mono ?_
          rintro e w1 ⟨r1, k1, hr1, hk1, rfl, hbel1, hrec1⟩
          have hrec1' : RecAt w1 r1 k1 G.length (fun j => G.getD j (0, 0)) := by rw [HG.out]; exact recAt_pairs hrec1
          have hr1s := World.block_lt_of_cell? w1 _ hrec1.2.1
          go_wp2_with fail
          refine (ZZunexpired_at r1 k1 G now w1 (by have := HGn.out; omega) hrec1' L c n HL.out HC.out HGn.out.symm).mono ?_
          rintro e w2 ⟨ot, ou, hot, hou, rfl, hbut2, hrot, hrou, hrk⟩
          have hB2 : Below wr.heap.size wr w2 := But.below hbel1 hbut2 hbel1.size hk1
          have hrec2 : RecAt w2 r1 k1 n (after now G) := ⟨hrec1.1, by rw [hbut2.cell (p := ⟨r1, 2, none⟩) hr1s hrec1.1]; exact hrec1.2.1, hrk⟩
          clear hrec1' hbut2 hbel1 hot hou hr1 hk1 hrec1 hrk hr1s
          go_wp2_with fail
          refine (grantsOf_any r1 k1 n (after now G) w2 (by omega) hrec2).mono ?_
          rintro e w3 ⟨at_, au, hat, hau, rfl, hbel3, hrat, hrau⟩
          have hrot' : w3.rowIs ot 25 c (fun j => .int .u64 (L.getD j (0, 0)).1) := hrot.of_block (hbel3.block _ hrot.lt)
          have hrou' : w3.rowIs ou 2 c (fun j => .int .i64 (L.getD j (0, 0)).2) := hrou.of_block (hbel3.block _ hrou.lt)
          have hB3 : Below wr.heap.size wr w3 := hB2.trans (hbel3.mono hB2.size)
          have hh1c := hh1'.below hB3
          have hh2c := hh2'.below hB3
          have hBB : Below w.heap.size w w3 := hB0.trans (hB3.mono hB0.size)
          clear hrec2 hbel3 hat hau hrot hrou hB2 hB3 hh1' hh2' hB0 HG
          go_wp2_with fail
          go_loop [17, 18] (fun l i => ∃ k c : Nat, k ≤ n ∧ i = .int .i64 k ∧ l = .int .i64 c ∧ c ≤ k ∧ Hid (c = (live now (G.take k)).length)) (fun _ i => n - (intOf i).toNat)
          case atStart => exact ⟨0, 0, Nat.zero_le _, rfl, rfl, Nat.le_refl _, rfl⟩
          case round =>
            obtain ⟨k, c', hk, rfl, rfl, hck, HC'⟩ := hrel
            by_cases hlk : k < n
            · as_aux_lemma =>
                -- (
                obtain ⟨bu, rfl, hbs, cu⟩ := hh2c k hlk
                by_cases hu : now < U k
                · have HC2 : Hid (c' + 1 = (live now (G.take (k + 1))).length) := by
                    show c' + 1 = _
                    rw [live_yes now G k (by have := HGn.out; omega) (by rw [HGg.out k hlk]; exact hu), List.length_append, ← HC'.out]; rfl
                  go_wp2
                  go_round
                  case rel => exact ⟨k + 1, c' + 1, by omega, by go_num, by go_num, by omega, HC2⟩
                  case measure => simp [intOf]; omega
                · have HC2 : Hid (c' = (live now (G.take (k + 1))).length) := by
                    show c' = _
                    rw [live_no now G k (by have := HGn.out; omega) (by rw [HGg.out k hlk]; exact hu)]; exact HC'.out
                  go_wp2
                  go_round
                  case rel => exact ⟨k + 1, c', by omega, by go_num, by go_num, by omega, HC2⟩
                  case measure => simp [intOf]; omega
                -- )
            · obtain rfl : c' = c := by
                have h1 := HC'.out
                rw [List.take_of_length_le (by have := HGn.out; omega)] at h1
                rw [h1, HC.out, HL.out]
              have e1 : (((c' : Nat) : Int) != ((c' : Nat) : Int)) = false := by simp
              have e2 : (((n : Nat) : Int) - ((c' : Nat) : Int) != ((n : Nat) : Int) - ((c' : Nat) : Int)) = false := by simp
              have e3 : (decide (c' = 0) == (((c' : Nat) : Int) == 0)) = true := by
                by_cases h : c' = 0
                · subst h; rfl
                · have h2 : (((c' : Nat) : Int) == 0) = false := by simp; omega
                  rw [h2]; simp [h]
              clear HC'
              go_wp2_with fail
              go_loopw [19, 20] (fun p j wr => ∃ jn pn : Nat, jn ≤ c' ∧ j = .int .i64 jn ∧ p = .int .i64 pn ∧ pn ≤ n ∧ Hid (jn < c' → pn ≤ I jn) ∧ Below w3.heap.size w3 wr) (fun _ j _ => c' - (intOf j).toNat)
              case atStart => exact ⟨0, 0, Nat.zero_le _, rfl, rfl, Nat.zero_le _, fun _ => Nat.zero_le _, Below.refl _ _⟩
              case round =>
                obtain ⟨jn, pn, hjc, rfl, rfl, hpn, HP, hbl⟩ := hrel
                by_cases hlj : jn < c'
                · as_aux_lemma =>
                    -- (
                    have hq1 := (HIn.out jn hlj).1
                    have hq2 := (HIn.out jn hlj).2
                    have hq3 := HP.out hlj
                    have hq4 := HLI.out jn hlj
                    obtain ⟨d, hd⟩ : ∃ d, d = I jn := ⟨_, rfl⟩
                    rw [← hd] at hq1 hq2 hq3 hq4
                    have lot := hrot'.lt
                    have lou := hrou'.lt
                    have X1 : Hid (w3.cell? ⟨ot, jn, none⟩ = some (.int .u64 (T d))) := by show _ = _; rw [hrot'.cell hlj, hq4]
                    have X2 : Hid (w3.cell? ⟨ou, jn, none⟩ = some (.int .i64 (U d))) := by show _ = _; rw [hrou'.cell hlj, hq4]
                    obtain ⟨b1, hb1, hs1, c1⟩ := hh1c d hq1
                    obtain ⟨b2, hb2, hs2, c2⟩ := hh2c d hq1
                    have X3 : Hid (∀ i, i < n → w3.cell? ⟨b1, i, none⟩ = some (.int .u64 (T i))) := by
                      intro i hi
                      obtain ⟨b1', hb1', _, c1'⟩ := hh1c i hi
                      rw [hb1] at hb1'
                      obtain rfl : b1 = b1' := by simpa using hb1'
                      exact c1'
                    have X4 : Hid (w3.cell? ⟨b2, d, none⟩ = some (.int .i64 (U d))) := c2
                    subst hb1
                    subst hb2
                    have l0 : (jn : Int) < (c' : Int) := by omega
                    have nle : ¬ U d ≤ now := by omega
                    have HPrev : Hid (0 < jn → w3.cell? ⟨ot, jn - 1, none⟩ = some (.int .u64 (T (I (jn - 1)))) ∧ T (I (jn - 1)) < T d) := by
                      intro h0
                      refine ⟨?_, ?_⟩
                      · rw [hrot'.cell (show jn - 1 < c' by omega), HLI.out (jn - 1) (by omega)]
                      · rw [hd]; exact HRn.out _ _ (HIm.out _ _ (by omega) hlj) (HIn.out jn hlj).1
                    have HNext : Hid (jn + 1 < c' → d + 1 ≤ I (jn + 1)) := fun h => by rw [hd]; exact HIm.out _ _ (by omega) h
                    have HLess : Hid (∀ i, i < d → T i < T d) := fun i hi => HRn.out i d hi hq1
                    clear hq4 hd HP HIn HIm HLI HRn hh1c hh2c hrot' hrou' hrat hrau c1 c2 HC HL HGn HGg
                    have x1 : wr.cell? ⟨ot, jn, none⟩ = some (.int .u64 (T d)) := (hbl.cell (p := ⟨ot, jn, none⟩) lot).trans X1.out
                    have x2 : wr.cell? ⟨ou, jn, none⟩ = some (.int .i64 (U d)) := (hbl.cell (p := ⟨ou, jn, none⟩) lou).trans X2.out
                    go_upto_region 37 with fail
                    go_cut [152] (fun s wx => s = .bool false ∧ Below w3.heap.size w3 wx)
                    case first =>
                      by_cases h0 : 0 < jn
                      · obtain ⟨m, rfl⟩ : ∃ m, jn = m + 1 := ⟨jn - 1, by omega⟩
                        have y1 := (HPrev.out h0).1
                        have y2 := (HPrev.out h0).2
                        rw [show m + 1 - 1 = m from by omega] at y1 y2
                        have y3 : wr.cell? ⟨ot, m, none⟩ = some (.int .u64 (T (I m))) := (hbl.cell (p := ⟨ot, m, none⟩) lot).trans y1
                        have l1 : (m : Int) < (c' : Int) := by omega
                        have g0 : decide ((0 : Int) < (m : Int) + 1) = true := by simp
                        clear y1
                        go_wp2
                        go_quiet (fail)
                        go_wp2
                        go_meet
                        exact ⟨by rw [decide_eq_false (show ¬ T d ≤ T (I m) by omega)], below_drewN hbl _⟩
                      · obtain rfl : jn = 0 := by omega
                        go_wp2
                        go_quiet (fail)
                        go_wp2
                        go_meet
                        exact ⟨rfl, below_drewN hbl _⟩
                    case rest =>
                      clear HPrev x1 x2 hbl
                      obtain ⟨rfl, hbl⟩ := hcut
                      go_wp2_with fail
                      go_loopw [19] (fun p wx => ∃ pn : Nat, p = .int .i64 pn ∧ pn ≤ d ∧ Below w3.heap.size w3 wx) (fun p _ => n - (intOf p).toNat)
                      case atStart => exact ⟨pn, rfl, hq3, hbl⟩
                      case round =>
                        clear hbl
                        obtain ⟨pm, rfl, hpm, hbl⟩ := hrel
                        have x1 : wr.cell? ⟨ot, jn, none⟩ = some (.int .u64 (T d)) := (hbl.cell (p := ⟨ot, jn, none⟩) lot).trans X1.out
                        have x2 : wr.cell? ⟨ou, jn, none⟩ = some (.int .i64 (U d)) := (hbl.cell (p := ⟨ou, jn, none⟩) lou).trans X2.out
                        have x3 : wr.cell? ⟨b1, pm, none⟩ = some (.int .u64 (T pm)) := (hbl.cell (p := ⟨b1, pm, none⟩) hs1).trans (X3.out pm (by omega))
                        have l2 : (pm : Int) < (n : Int) := by omega
                        by_cases hlp : pm < d
                        · have hlt2 := HLess.out pm hlp
                          go_wp2
                          go_quiet (fail)
                          go_wp2
                          go_roundw
                          case rel => exact ⟨pm + 1, by go_num, by omega, below_drewN hbl _⟩
                          case measure => simp [intOf]; omega
                        · obtain rfl : pm = d := by omega
                          have x4 : wr.cell? ⟨b2, pm, none⟩ = some (.int .i64 (U pm)) := (hbl.cell (p := ⟨b2, pm, none⟩) hs2).trans X4.out
                          have ng : decide ((n : Int) ≤ (pm : Int)) = false := by simp; omega
                          have t1 : (T pm != T pm) = false := by simp
                          have t2 : (U pm != U pm) = false := by simp
                          go_wp2
                          go_quiet (fail)
                          go_wp2
                          go_quiet (fail)
                          go_wp2
                          go_roundw
                          case rel => exact ⟨jn + 1, pm + 1, by omega, by go_num, by go_num, by omega, HNext, below_drewN hbl _⟩
                          case measure => simp [intOf]; omega
                    -- )
                · have HA0 : Hid (c' = 0 → ∀ k, k < n → after now G k = (T k, U k)) := by
                    intro h k hk
                    unfold after
                    rw [if_pos (by rw [← HL.out, ← HC.out]; exact h)]
                    exact HGg.out k hk
                  have HA1 : Hid (c' ≠ 0 → ∀ k, after now G k = L.getD k (0, 0)) := by
                    intro h k
                    unfold after
                    rw [if_neg (by rw [← HL.out, ← HC.out]; exact h), HL.out]
                  have HA2 : Hid (c' ≠ 0 → ∀ k, c' ≤ k → after now G k = (0, 0)) := by
                    intro h k hk
                    rw [HA1.out h k, List.getD_eq_getElem?_getD, List.getElem?_eq_none (by rw [← HC.out]; exact hk)]; rfl
                  have e5 : (((n : Nat) : Int) != ((n : Nat) : Int)) = false := by simp
                  have lat := hrat.lt
                  have lau := hrau.lt
                  have lot := hrot'.lt
                  have lou := hrou'.lt
                  clear HP HIn HIm HLI HRn HGn HGg HL HC
                  go_wp2_with fail
                  go_loopw [21] (fun i wx => ∃ k : Nat, k ≤ n ∧ i = .int .i64 k ∧ Below w3.heap.size w3 wx) (fun i _ => n - (intOf i).toNat)
                  case atStart => exact ⟨0, Nat.zero_le _, rfl, hbl⟩
                  case round =>
                    clear hbl
                    obtain ⟨i, hi, rfl, hbl⟩ := hrel
                    by_cases hli : i < n
                    · have l0 : (i : Int) < (n : Int) := by omega
                      by_cases hc0 : c' = 0
                      · as_aux_lemma =>
                          have z0 : (((c' : Nat) : Int) == 0) = true := by simp [hc0]
                          obtain ⟨b1, rfl, hs1, c1⟩ := hh1c i hli
                          obtain ⟨b2, rfl, hs2, c2⟩ := hh2c i hli
                          have x1 : wr.cell? ⟨at_, i, none⟩ = some (.int .u64 (T i)) := by rw [hbl.cell (p := ⟨at_, i, none⟩) lat, hrat.cell hli, HA0.out hc0 i hli]
                          have x2 : wr.cell? ⟨au, i, none⟩ = some (.int .i64 (U i)) := by rw [hbl.cell (p := ⟨au, i, none⟩) lau, hrau.cell hli, HA0.out hc0 i hli]
                          have x3 : wr.cell? ⟨b1, i, none⟩ = some (.int .u64 (T i)) := by rw [hbl.cell (p := ⟨b1, i, none⟩) hs1]; exact c1
                          have x4 : wr.cell? ⟨b2, i, none⟩ = some (.int .i64 (U i)) := by rw [hbl.cell (p := ⟨b2, i, none⟩) hs2]; exact c2
                          have t1 : (T i != T i) = false := by simp
                          have t2 : (U i != U i) = false := by simp
                          clear hh1c hh2c hrat hrau hrot' hrou' hc0 c1 c2
                          go_wp2
                          go_quiet (fail)
                          go_wp2
                          go_roundw
                          case rel => exact ⟨i + 1, by omega, by go_num, below_drewN hbl _⟩
                          case measure => simp [intOf]; omega
                      · have z0 : (((c' : Nat) : Int) == 0) = false := by simp; omega
                        by_cases hlc : i < c'
                        · as_aux_lemma =>
                            obtain ⟨p, hp⟩ : ∃ p, p = L.getD i (0, 0) := ⟨_, rfl⟩
                            have x1 : wr.cell? ⟨at_, i, none⟩ = some (.int .u64 p.1) := by rw [hbl.cell (p := ⟨at_, i, none⟩) lat, hrat.cell hli, HA1.out hc0 i, hp]
                            have x2 : wr.cell? ⟨au, i, none⟩ = some (.int .i64 p.2) := by rw [hbl.cell (p := ⟨au, i, none⟩) lau, hrau.cell hli, HA1.out hc0 i, hp]
                            have x3 : wr.cell? ⟨ot, i, none⟩ = some (.int .u64 p.1) := by rw [hbl.cell (p := ⟨ot, i, none⟩) lot, hrot'.cell hlc, hp]
                            have x4 : wr.cell? ⟨ou, i, none⟩ = some (.int .i64 p.2) := by rw [hbl.cell (p := ⟨ou, i, none⟩) lou, hrou'.cell hlc, hp]
                            have t1 : (p.1 != p.1) = false := by simp
                            have t2 : (p.2 != p.2) = false := by simp
                            have l1 : (i : Int) < (c' : Int) := by omega
                            clear hh1c hh2c hrat hrau hrot' hrou' hp
                            go_wp2
                            go_quiet (fail)
                            go_wp2
                            go_roundw
                            case rel => exact ⟨i + 1, by omega, by go_num, below_drewN hbl _⟩
                            case measure => simp [intOf]; omega
                        · as_aux_lemma =>
                            have x1 : wr.cell? ⟨at_, i, none⟩ = some (.int .u64 0) := by rw [hbl.cell (p := ⟨at_, i, none⟩) lat, hrat.cell hli, HA2.out hc0 i (by omega)]
                            have x2 : wr.cell? ⟨au, i, none⟩ = some (.int .i64 0) := by rw [hbl.cell (p := ⟨au, i, none⟩) lau, hrau.cell hli, HA2.out hc0 i (by omega)]
                            clear hh1c hh2c hrat hrau hrot' hrou'
                            go_wp2
                            go_roundw
                            case rel => exact ⟨i + 1, by omega, by go_num, hbl⟩
                            case measure => simp [intOf]; omega
                    · go_wp2
                      go_ret
                      exact ⟨rfl, hBB.trans (hbl.mono hBB.size)⟩

theorem walk3 (ta : Option Addr) (tl tc : Nat) (zt : List Int) (ua : Option Addr) (ul uc : Nat) (zu : List Int) (now : Int) (w : World)
    (hT : IsRow .u64 w ta tl tc zt) (hU : IsRow .i64 w ua ul uc zu) :
    Calls Try.prog 3 #[.slice ta tl tc, .slice ua ul uc, .int .i64 now] w fun e w' => e = .returned (.bool true) ∧ Below w.heap.size w w' := by
  by_cases h : tl + ul ≤ 1048576 ∧ tl ≤ 4096 ∧ ul ≤ 4096 ∧ ul = tl
  · obtain ⟨h1, h2, h3, rfl⟩ := h
    exact walk3_main ta ul tc zt ua uc zu now w hT hU h2
  · exact early3 ta tl tc ua ul uc now w hT.len hU.len h
end Go.Proofs.Qxb6612989a
