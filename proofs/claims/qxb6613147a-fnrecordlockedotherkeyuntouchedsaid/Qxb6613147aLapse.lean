import Derived.Test.Qxb6613147aCalls
namespace Go.Proofs.Qxb6613147a
open Go.RowKit
set_option linter.unusedVariables false

set_option maxRecDepth 100000 in
set_option maxHeartbeats 1600000 in
theorem early3 (key : ByteArray) (fin : Bool) (ends n1 n2 : Int) (w : World) (hp : key.size ≤ maxLen) (h : ¬ key.size ≤ 65536) :
    Calls Try.prog 3 #[.string key, .bool fin, .int .i64 ends, .int .i64 n1, .int .i64 n2] w fun e w' => e = .returned (.bool true) ∧ Below w.heap.size w w' := by
  have hp' := hp
  unfold maxLen at hp'
  go_enter Try.func3, Try.ntmps3
  go_wp2_with fail
  refine (bytes6 key fin ends n1 n2 w hp).mono ?_
  rintro e w' ⟨rfl, rfl⟩
  cases hf : fitsB key.size with
  | false =>
    clear hf
    go_wp2
    go_ret
    exact ⟨rfl, Below.refl _ _⟩
  | true =>
    clear hf
    go_wp2
    go_ret
    exact ⟨rfl, Below.refl _ _⟩

set_option maxRecDepth 100000 in
set_option maxHeartbeats 1600000 in
theorem main3 (key : ByteArray) (fin : Bool) (ends n1 n2 : Int) (w : World) (h : key.size ≤ 65536)
    (he0 : -9223372036854775808 ≤ ends) (he1 : ends ≤ 9223372036854775807) (ha0 : -9223372036854775808 ≤ n1) (ha1 : n1 ≤ 9223372036854775807) (hb0 : -9223372036854775808 ≤ n2) (hb1 : n2 ≤ 9223372036854775807) :
    Calls Try.prog 3 #[.string key, .bool fin, .int .i64 ends, .int .i64 n1, .int .i64 n2] w fun e w' => e = .returned (.bool true) ∧ Below w.heap.size w w' := by
  have hfit : fitsB key.size = true := by unfold fitsB; simp; omega
  have hne := neq25_same
  go_enter Try.func3, Try.ntmps3
  go_wp2_with fail
  refine (bytes6 key fin ends n1 n2 w (by unfold maxLen; omega)).mono ?_
  rw [hfit]
  clear hfit
  rintro e w' ⟨rfl, rfl⟩
  go_wp2_with fail
  refine (storeWith_any key fin ends w he0 he1).mono ?_
  rintro e w1 ⟨sb, mb, rb, cb, hmb, hcb, rfl, hb1', F⟩
  go_wp2_with fail
  refine (recordOf_any w1 sb mb rb cb key fin ends F).mono ?_
  rintro e w' ⟨rfl, rfl⟩
  have hs1 := hb1'.size
  cases fin with
  | true =>
    go_wp2_with fail
    refine (zl_hit w1 sb mb rb cb key true ends n1 ha0 ha1 (Or.inl rfl) F).mono ?_
    rintro e w2 ⟨rfl, hb2⟩
    have F2 := F.below hb2
    go_wp2_with fail
    refine (zl_hit w2 sb mb rb cb key true ends n2 hb0 hb1 (Or.inl rfl) F2).mono ?_
    rintro e w3 ⟨rfl, hb3⟩
    have F3 := F2.below hb3
    have hs2 := hb2.size
    have hBB : Below w.heap.size w w3 := hb1'.trans ((hb2.trans (hb3.mono hs2)).mono hs1)
    go_wp2_with fail
    refine (count_full w3 sb mb rb cb key true ends F3).mono ?_
    rintro e w' ⟨rfl, rfl⟩
    go_wp2
    go_ret
    exact ⟨rfl, hBB⟩
  | false =>
    by_cases hA : n1 < ends
    · by_cases hB : n2 < ends
      · go_wp2_with fail
        refine (zl_hit w1 sb mb rb cb key false ends n1 ha0 ha1 (Or.inr hA) F).mono ?_
        rintro e w2 ⟨rfl, hb2⟩
        have F2 := F.below hb2
        go_wp2_with fail
        refine (zl_hit w2 sb mb rb cb key false ends n2 hb0 hb1 (Or.inr hB) F2).mono ?_
        rintro e w3 ⟨rfl, hb3⟩
        have F3 := F2.below hb3
        have hs2 := hb2.size
        have hBB : Below w.heap.size w w3 := hb1'.trans ((hb2.trans (hb3.mono hs2)).mono hs1)
        go_wp2_with fail
        refine (count_full w3 sb mb rb cb key false ends F3).mono ?_
        rintro e w' ⟨rfl, rfl⟩
        go_wp2
        go_ret
        exact ⟨rfl, hBB⟩
      · go_wp2_with fail
        refine (zl_hit w1 sb mb rb cb key false ends n1 ha0 ha1 (Or.inr hA) F).mono ?_
        rintro e w2 ⟨rfl, hb2⟩
        have F2 := F.below hb2
        go_wp2_with fail
        refine (zl_lapsed w2 sb mb rb cb key ends n2 hb0 hb1 (by omega) F2).mono ?_
        rintro e w3 ⟨rfl, F3, hb3⟩
        have hs2 := hb2.size
        have hBB : Below w.heap.size w w3 := hb1'.trans ((hb2.mono hs1).trans (hb3 _ hmb hcb (Nat.le_trans hs1 hs2)))
        go_wp2_with fail
        refine (count_empt w3 sb mb F3).mono ?_
        rintro e w' ⟨rfl, rfl⟩
        go_wp2
        go_ret
        exact ⟨rfl, hBB⟩
    · go_wp2_with fail
      refine (zl_lapsed w1 sb mb rb cb key ends n1 ha0 ha1 (by omega) F).mono ?_
      rintro e w2 ⟨rfl, F2, hb2⟩
      have hb2w := hb2 _ hmb hcb hs1
      have hsz : w1.heap.size ≤ w2.heap.size := hb2w.size
      go_wp2_with fail
      refine (zl_empt w2 sb mb key n2 hb0 hb1 F2).mono ?_
      rintro e w3 ⟨rfl, hb3⟩
      have F3 := F2.below hb3
      have hBB : Below w.heap.size w w3 := hb1'.trans (hb2w.trans (hb3.mono (Nat.le_trans hs1 hsz)))
      go_wp2_with fail
      refine (count_empt w3 sb mb F3).mono ?_
      rintro e w' ⟨rfl, rfl⟩
      go_wp2
      go_ret
      exact ⟨rfl, hBB⟩

theorem wf_i64 {a : Int} (h : (Lit.int .i64 a).wf = true) : -9223372036854775808 ≤ a ∧ a ≤ 9223372036854775807 := by
  simp [Lit.wf, IntKind.min, IntKind.max, IntKind.bits, IntKind.signed] at h
  omega

theorem walk3 (key : ByteArray) (fin : Bool) (ends n1 n2 : Int) (w : World) (hp : key.size ≤ maxLen) (he : (Lit.int .i64 ends).wf = true) (h1 : (Lit.int .i64 n1).wf = true) (h2 : (Lit.int .i64 n2).wf = true) :
    Calls Try.prog 3 #[.string key, .bool fin, .int .i64 ends, .int .i64 n1, .int .i64 n2] w fun e w' => e = .returned (.bool true) ∧ Below w.heap.size w w' := by
  by_cases h : key.size ≤ 65536
  · exact main3 key fin ends n1 n2 w h (wf_i64 he).1 (wf_i64 he).2 (wf_i64 h1).1 (wf_i64 h1).2 (wf_i64 h2).1 (wf_i64 h2).2
  · exact early3 key fin ends n1 n2 w hp h
end Go.Proofs.Qxb6613147a
