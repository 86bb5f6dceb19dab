import Derived.Test.Qxb6612924aEarly
import Derived.Test.Qxb6612924aCopy
import Derived.WalkSpells
import Derived.Deep.DeepCutAuto
namespace Go.Proofs.Qxb6612924a
open Go.RowKit Go.Deep
set_option linter.unusedVariables false

theorem Try.info21 : (Try.prog.info? 21).map (fun i => (i.zero, i.size, i.bytes)) = some (some (.int .i32 0), 1, 4) := by kernel_rfl

/-- WHAT THE WALK IS TOLD OF A SLICE OF INTEGERS THAT CAME IN. -/
def IsRow (k : IntKind) (w : World) (a : Option Addr) (len cap : Nat) (zs : List Int) : Prop :=
  (a = none ∧ len = 0 ∧ cap = 0 ∧ zs = []) ∨
  ∃ x, a = some x ∧ len ≤ cap ∧ cap ≤ maxLen ∧ zs.length = cap ∧ (∀ i, i < zs.length → w.cell? (x.add i) = some (.int k (zs.getD i 0))) ∧ ∀ n ∈ zs, (Lit.int k n).wf = true

theorem IsRow.below {k : IntKind} {w w' : World} {a : Option Addr} {len cap : Nat} {zs : List Int} (h : IsRow k w a len cap zs) (hb : Below w.heap.size w w') : IsRow k w' a len cap zs := by
  rcases h with h | ⟨x, h1, h2, h3, h4, h5, h6⟩
  · exact .inl h
  · exact .inr ⟨x, h1, h2, h3, h4, fun i hi => by rw [hb.cell (World.block_lt_of_cell? w _ (h5 i hi))]; exact h5 i hi, h6⟩

/-- docs behind the copy: the numbers zs.take L lie at the head of some block of the call's own (or there is none) -/
def Held (B : Nat) (wx : World) (a : Option Addr) (L : Nat) (Z : Nat → Int) : Prop := ∀ j, j < L → ∃ b, a = some ⟨b, 0, none⟩ ∧ B ≤ b ∧ b < wx.heap.size ∧ wx.cell? ⟨b, j, none⟩ = some (.int .i32 (Z j))
theorem Held.below {B : Nat} {wx wy : World} {a : Option Addr} {L : Nat} {Z : Nat → Int} (h : Held B wx a L Z) (hb : Below wx.heap.size wx wy) : Held B wy a L Z := by
  intro j hj
  obtain ⟨b, h1, h2, h3, h4⟩ := h j hj
  exact ⟨b, h1, h2, Nat.lt_of_lt_of_le h3 hb.size, by rw [hb.cell (p := ⟨b, j, none⟩) h3]; exact h4⟩

theorem map_add (b k : Nat) : Option.map (fun x : Addr => x.add k) (some ⟨b, 0, none⟩) = some ⟨b, 0 + k, none⟩ := by
  simp [Addr.add]; intro h; exact h.symm

theorem order_nan_left {a : Nat} (b : Nat) (h : (FloatKind.f64.format.read a).isNaN = true) : FloatKind.f64.format.order a b = none := by
  unfold Ieee.Format.order
  cases hr : FloatKind.f64.format.read a with
  | number => rw [hr] at h; cases h
  | infinity => rw [hr] at h; cases h
  | nan s t => rfl

theorem same_of_prod {x y s t : Nat} (hs : Prodf x y s) (ht : Prodf x y t) : sameB s t = true := by
  rcases hs with ⟨r, h1, rfl⟩ | ⟨h1, h2⟩
  · rcases ht with ⟨r', h3, rfl⟩ | ⟨h3, _⟩
    · rw [h1] at h3
      obtain rfl := Option.some.inj h3
      unfold sameB
      generalize FloatKind.f64.format.order s s = o
      cases h : (o == some Ordering.eq) <;> simp [bne, h]
    · rw [h1] at h3; cases h3
  · rcases ht with ⟨r', h3, rfl⟩ | ⟨_, h4⟩
    · rw [h1] at h3; cases h3
    · unfold sameB
      rw [order_nan_left t h2, order_nan_left s h2, order_nan_left t h4]
      rfl

theorem product_comm (a b : Ieee.Datum) : a.product b = b.product a := by
  cases a <;> cases b <;> simp [Ieee.Datum.product, Bool.xor_comm, Nat.mul_comm, Int.add_comm]

theorem Prodf.swap {x y s : Nat} (h : Prodf x y s) : Prodf y x s := by
  have e : FloatKind.f64.format.mul y x = FloatKind.f64.format.mul x y := by unfold Ieee.Format.mul; rw [product_comm]
  unfold Prodf at h ⊢
  rw [e]; exact h

set_option maxRecDepth 100000 in
set_option maxHeartbeats 2000000 in
theorem walk3_main (pre : ByteArray) (field : Int) (x y nn : Nat) (a : Option Addr) (L C : Nat) (zd : List Int) (ta : Option Addr) (tl tc : Nat) (zt : List Int) (idf : Nat) (np : Int) (cut : Nat) (w : World)
    (hD : IsRow .i32 w a L C zd) (hT : IsRow .i32 w ta tl tc zt)
    (g1 : pre.size + L + tl ≤ 1048576) (g2 : pre.size ≤ 65536) (g3 : L ≤ 65536) (g4 : tl ≤ 65536) (g5 : pre.size + 4 * L + 4 * tl ≤ 1048576) (g6 : cut ≤ L) :
    Calls Try.prog 3 #[.string pre, .int .i64 field, .float .f64 x, .float .f64 y, .float .f64 nn, .slice a L C, .slice ta tl tc, .float .f64 idf, .int .i64 np, .int .i64 cut] w fun e w' =>
      e = .returned (.bool true) ∧ Below w.heap.size w w' := by
  obtain ⟨Z, hZ⟩ : ∃ Z : Nat → Int, Z = fun j => zd.getD j 0 := ⟨_, rfl⟩
  have HZ : Hid (Z = fun j => zd.getD j 0) := hZ
  clear hZ
  have hfit : fitsB pre.size L tl = true := by simp [fitsB]; omega
  have hnil := fun (w : World) (a : Option Addr) (n c : Nat) => run_neq_slice_nil_any (P := Try.prog) w 23 21 a n c 0 0 Try.underlying23
  go_enter Try.func3, Try.ntmps3
  go_upto_if 77 with ((go_at_call 6; refine (bytes_any _ _ _ _ _ _ _ _ _ _ _ _ _ _ _ (by unfold maxLen; omega) (by unfold maxLen; omega) (by unfold maxLen; omega)).mono ?_; rintro e w' ⟨rfl, rfl⟩))
  go_cut [5] (fun s5 wx => Below w.heap.size w wx ∧ ∃ a', s5 = .slice a' L L ∧ Held w.heap.size wx a' L Z)
  case first =>
    -- (
    rcases hD with ⟨rfl, rfl, rfl, rfl⟩ | ⟨xa, rfl, hl, hm, hz, hcell, hwf⟩
    · go_wp2
      go_meet
      exact ⟨Below.refl _ _, none, rfl, fun j hj => by omega⟩
    · have hmk := run_make_row' (P := Try.prog) 23 21 (.int .i32 0) 4 Try.underlying23 Try.info21 rfl .i64 .i64 L (by omega) (by omega)
      obtain ⟨W2, hcp, hbel, hrow, hsz⟩ := copy_fresh (P := Try.prog) w 23 21 3 .i32 L C xa zd Try.underlying23 (by kernel_rfl) hl hz hcell
      go_wp2
      go_meet
      exact ⟨hbel, _, rfl, fun j hj => ⟨_, rfl, Nat.le_refl _, by omega, by rw [HZ.out]; exact hrow.cell hj⟩⟩
    -- )
  case rest =>
    obtain ⟨hb1, a1, rfl, hheld⟩ := hcut
    have hT1 := hT.below hb1
    clear hT hD
    go_upto_if 86 with fail
    go_cut [6] (fun s6 wx => Below w.heap.size w wx ∧ Held w.heap.size wx a1 L Z ∧ ∃ a n c, s6 = .slice a n c)
    case first =>
      -- (
      rcases hT1 with ⟨rfl, rfl, rfl, rfl⟩ | ⟨xa, rfl, hl, hm, hz, hcell, hwf⟩
      · go_wp2
        go_meet
        exact ⟨hb1, hheld, none, 0, 0, rfl⟩
      · have hmk := run_make_row' (P := Try.prog) 23 21 (.int .i32 0) 4 Try.underlying23 Try.info21 rfl .i64 .i64 tl (by omega) (by omega)
        obtain ⟨W2, hcp, hbel, hrow, hsz⟩ := copy_fresh (P := Try.prog) wc 23 21 3 .i32 tl tc xa zt Try.underlying23 (by kernel_rfl) hl hz hcell
        go_wp2
        go_meet
        exact ⟨hb1.trans (hbel.mono hb1.size), hheld.below hbel, _, _, _, rfl⟩
      -- )
    case rest =>
      clear hT1 hheld hb1 hnil
      obtain ⟨hb2, hheld, a2, n2, c2, rfl⟩ := hcut
      go_upto_region 17 with fail
      go_cut [23] (fun s23 wx => Below w.heap.size w wx ∧ Held w.heap.size wx a1 L Z ∧ ∃ s, s23 = .float .f64 s ∧ Prodf x y s)
      case first =>
        -- (
        cases hm : FloatKind.f64.format.mul x y with
        | some r =>
          have hmul : ∀ w : World, (binOp .mul 22 (.float .f64 x) (.float .f64 y)).run Try.prog w = .ok (.float .f64 r) w := fun w => run_float_arith w .mul 22 .f64 x y r hm
          go_wp2
          go_meet
          exact ⟨hb2, hheld, _, rfl, .inl ⟨r, hm, rfl⟩⟩
        | none =>
          have hmul := run_mul_none x y hm
          go_wp2
          go_meet
          exact ⟨hb2.drew, hheld, _, rfl, .inr ⟨hm, nanAt_isNaN x y _⟩⟩
        -- )
      case rest =>
        clear hheld hb2
        obtain ⟨hb3, hheld, sw, rfl, hsw⟩ := hcut
        go_wp2_with fail
        refine (ZZScored_any pre field x y nn idf a1 L L a2 n2 c2 np Z _ (by omega) ?_).mono ?_
        · intro j hj
          obtain ⟨b, h1, h2, h3, h4⟩ := hheld j hj
          exact ⟨b, 0, h1, h3, by rw [Nat.zero_add]; exact h4⟩
        rintro e w1 ⟨b1, hb1, rfl, hbel1, f1, hrow1, hok1⟩
        have hheld1 := hheld.below hbel1
        have hB1 := hb3.trans (hbel1.mono hb3.size)
        clear hheld
        go_wp2_with fail
        refine (ZZScored_any pre field x y nn idf a1 cut L a2 n2 c2 np Z _ (by omega) ?_).mono ?_
        · intro j hj
          obtain ⟨b, h1, h2, h3, h4⟩ := hheld1 j (by omega)
          exact ⟨b, 0, h1, h3, by rw [Nat.zero_add]; exact h4⟩
        rintro e w2 ⟨b2, hb2, rfl, hbel2, f2, hrow2, hok2⟩
        have hheld2 := hheld1.below hbel2
        have hB2 := hB1.trans (hbel2.mono hB1.size)
        have hr1 : w2.rowIs b1 48 (L * 2) f1 := hrow1.of_block (hbel2.block _ hrow1.lt)
        clear hheld1 hrow1 hbel1 hb1
        go_upto_region 20 with fail
        go_cut [26] (fun s26 wx => Below w.heap.size w wx ∧ Held w.heap.size wx a1 L Z ∧ wx.rowIs b1 48 (L * 2) f1 ∧ wx.rowIs b2 48 (cut * 2) f2 ∧
          ∃ n3 b3 f3, n3 = L - cut ∧ s26 = .slice (some ⟨b3, 0, none⟩) n3 n3 ∧ wx.rowIs b3 48 (n3 * 2) f3 ∧ RowOk x y (fun j => Z (cut + j)) f3 n3)
        case first =>
          by_cases hlc : L = cut
          · subst hlc
            go_wp2_with fail
            refine (ZZScored_any pre field x y nn idf a1 0 0 a2 n2 c2 np (fun j => Z (L + j)) _ (by omega) ?_).mono ?_
            · intro j hj; omega
            rintro e w3 ⟨b3, hb3, rfl, hbel3, f3, hrow3, hok3⟩
            go_wp2
            go_meet
            exact ⟨hB2.trans (hbel3.mono hB2.size), hheld2.below hbel3, hr1.of_block (hbel3.block _ hr1.lt), hrow2.of_block (hbel3.block _ hrow2.lt), 0, b3, f3, by omega, rfl, hrow3, hok3⟩
          · go_wp2_with fail
            refine (ZZScored_any pre field x y nn idf (Option.map (fun x => x.add cut) a1) (L - cut) (L - cut) a2 n2 c2 np (fun j => Z (cut + j)) _ (by omega) ?_).mono ?_
            · intro j hj
              obtain ⟨b, h1, h2, h3, h4⟩ := hheld2 (cut + j) (by omega)
              exact ⟨b, 0 + cut, by rw [h1]; exact map_add b cut, h3, by rw [Nat.zero_add]; exact h4⟩
            rintro e w3 ⟨b3, hb3, rfl, hbel3, f3, hrow3, hok3⟩
            go_wp2
            go_meet
            exact ⟨hB2.trans (hbel3.mono hB2.size), hheld2.below hbel3, hr1.of_block (hbel3.block _ hr1.lt), hrow2.of_block (hbel3.block _ hrow2.lt), L - cut, b3, f3, rfl, rfl, hrow3, hok3⟩
        case rest =>
          clear hheld2 hr1 hrow2 hb3 hb2 hB1 hB2 hbel2
          obtain ⟨hB3, hheld, hr1, hr2, n3, b3, f3, hn3, rfl, hr3, hok3⟩ := hcut
          have hn3' : cut + n3 = L := by omega
          clear hn3
          have e1 : (((L : Nat) : Int) != ((L : Nat) : Int)) = false := by simp
          have e2 : (((cut : Nat) : Int) != ((cut : Nat) : Int)) = false := by simp
          have e3 : (((n3 : Nat) : Int) != ((L : Nat) : Int) - ((cut : Nat) : Int)) = false := by
            rw [bne_eq_false_iff_eq]; omega
          go_wp2_with fail
          go_loop [27] (fun i => ∃ k : Nat, k ≤ L ∧ i = .int .i64 k) (fun i => L - (intOf i).toNat)
          case atStart => exact ⟨0, Nat.zero_le _, rfl⟩
          case round =>
            obtain ⟨k, hk, rfl⟩ := hrel
            by_cases hlt : k < L
            · obtain ⟨q1, s1, p1, q2⟩ := hok1 k hlt
              obtain ⟨b, rfl, hbb, hbs, hcd⟩ := hheld k hlt
              have c1 : wc.cell? ⟨b1, k * 2, none⟩ = some (.int .i32 (Z k)) := by rw [hr1.cell (by omega), q1]
              have c2 : wc.cell? ⟨b1, k * 2 + 1, none⟩ = some (.float .f64 s1) := by rw [hr1.cell (by omega), q2]
              have m1 : sameB s1 sw = true := same_of_prod p1 hsw
              have zz : (Z k != Z k) = false := by simp
              by_cases hkc : k < cut
              · obtain ⟨q3, s2, p2, q4⟩ := hok2 k hkc
                have c3 : wc.cell? ⟨b2, k * 2, none⟩ = some (.int .i32 (Z k)) := by rw [hr2.cell (by omega), q3]
                have c4 : wc.cell? ⟨b2, k * 2 + 1, none⟩ = some (.float .f64 s2) := by rw [hr2.cell (by omega), q4]
                have m2 : sameB s2 s1 = true := same_of_prod p2 p1
                clear q1 q2 q3 q4 p1 p2 hr1 hr2 hr3 hok1 hok2 hok3 hheld HZ
                go_wp2_with fail
                refine (doc_any b1 L L _ k rfl (Z k) _ hlt (by omega) c1).mono ?_
                rintro e w' ⟨rfl, rfl⟩
                go_wp2_with fail
                refine (score_any b1 L L _ k rfl s1 _ hlt (by omega) c2).mono ?_
                rintro e w' ⟨rfl, rfl⟩
                go_wp2_with fail
                refine (same_any s1 sw _).mono ?_
                rintro e w' ⟨rfl, rfl⟩
                go_wp2_with fail
                refine (doc_any b2 cut cut _ k rfl (Z k) _ hkc (by omega) c3).mono ?_
                rintro e w' ⟨rfl, rfl⟩
                go_wp2_with fail
                refine (score_any b2 cut cut _ k rfl s2 _ hkc (by omega) c4).mono ?_
                rintro e w' ⟨rfl, rfl⟩
                go_wp2_with fail
                refine (same_any s2 s1 _).mono ?_
                rintro e w' ⟨rfl, rfl⟩
                go_wp2_with fail
                go_round
                case rel => exact ⟨k + 1, by omega, by go_num⟩
                case measure => simp [intOf]; omega
              · obtain ⟨m, rfl⟩ : ∃ m, k = cut + m := ⟨k - cut, by omega⟩
                obtain ⟨q3, s2, p2, q4⟩ := hok3 m (by omega)
                have c3 : wc.cell? ⟨b3, m * 2, none⟩ = some (.int .i32 (Z (cut + m))) := by rw [hr3.cell (by omega), q3]
                have c4 : wc.cell? ⟨b3, m * 2 + 1, none⟩ = some (.float .f64 s2) := by rw [hr3.cell (by omega), q4]
                have m2 : sameB s2 s1 = true := same_of_prod p2 p1
                clear q1 q2 q3 q4 p1 p2 hr1 hr2 hr3 hok1 hok2 hok3 hheld HZ
                go_wp2_with fail
                refine (doc_any b1 L L _ (cut + m) (by omega) (Z (cut + m)) _ hlt (by omega) c1).mono ?_
                rintro e w' ⟨rfl, rfl⟩
                go_wp2_with fail
                refine (score_any b1 L L _ (cut + m) (by omega) s1 _ hlt (by omega) c2).mono ?_
                rintro e w' ⟨rfl, rfl⟩
                go_wp2_with fail
                refine (same_any s1 sw _).mono ?_
                rintro e w' ⟨rfl, rfl⟩
                go_wp2_with fail
                refine (doc_any b3 n3 n3 _ m (by omega) (Z (cut + m)) _ (by omega) (by omega) c3).mono ?_
                rintro e w' ⟨rfl, rfl⟩
                go_wp2_with fail
                refine (score_any b3 n3 n3 _ m (by omega) s2 _ (by omega) (by omega) c4).mono ?_
                rintro e w' ⟨rfl, rfl⟩
                go_wp2_with fail
                refine (same_any s2 s1 _).mono ?_
                rintro e w' ⟨rfl, rfl⟩
                go_wp2_with fail
                go_round
                case rel => exact ⟨cut + m + 1, by omega, by go_num⟩
                case measure => simp [intOf]; omega
            · go_wp2
              go_ret
              exact ⟨rfl, hB3⟩

theorem IsRow.len {k : IntKind} {w : World} {a : Option Addr} {len cap : Nat} {zs : List Int} (h : IsRow k w a len cap zs) : len ≤ maxLen := by
  rcases h with ⟨_, h, _, _⟩ | ⟨x, _, h2, h3, _⟩
  · omega
  · omega

theorem walk3 (pre : ByteArray) (field : Int) (x y nn : Nat) (a : Option Addr) (L C : Nat) (zd : List Int) (ta : Option Addr) (tl tc : Nat) (zt : List Int) (idf : Nat) (np cut : Int) (w : World)
    (hp : pre.size ≤ maxLen) (hD : IsRow .i32 w a L C zd) (hT : IsRow .i32 w ta tl tc zt) :
    Calls Try.prog 3 #[.string pre, .int .i64 field, .float .f64 x, .float .f64 y, .float .f64 nn, .slice a L C, .slice ta tl tc, .float .f64 idf, .int .i64 np, .int .i64 cut] w fun e w' =>
      e = .returned (.bool true) ∧ Below w.heap.size w w' := by
  by_cases h : pre.size + L + tl ≤ 1048576 ∧ pre.size ≤ 65536 ∧ L ≤ 65536 ∧ tl ≤ 65536 ∧ pre.size + 4 * L + 4 * tl ≤ 1048576 ∧ 0 ≤ cut ∧ cut ≤ L
  · obtain ⟨g1, g2, g3, g4, g5, g6, g7⟩ := h
    obtain ⟨c, rfl⟩ := Int.eq_ofNat_of_zero_le g6
    exact walk3_main pre field x y nn a L C zd ta tl tc zt idf np c w hD hT g1 g2 g3 g4 g5 (by omega)
  · exact early3 pre field x y nn a L C ta tl tc idf np cut w hp hD.len hT.len h
end Go.Proofs.Qxb6612924a
