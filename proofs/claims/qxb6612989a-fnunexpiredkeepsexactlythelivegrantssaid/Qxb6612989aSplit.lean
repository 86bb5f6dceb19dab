import Derived.Test.Qxb6612989aUnexp
namespace Go.Proofs.Qxb6612989a
open Go.RowKit Go.Deep
set_option linter.unusedVariables false

/-- a slice of grants: the tokens and untils lie in their cells -/
def HeldG (wx : World) (a : Option Addr) (m : Nat) (g : Nat → Int × Int) : Prop := ∀ j, j < m → ∃ b, a = some ⟨b, 0, none⟩ ∧ b < wx.heap.size ∧ wx.cell? ⟨b, j * 5 + 1, none⟩ = some (.int .u64 (g j).1) ∧ wx.cell? ⟨b, j * 5 + 4, none⟩ = some (.int .i64 (g j).2)

theorem madeInt (n : Nat) (k : IntKind) (w : World) (t : TypeId) : (w.alloc (.cells (madeCells #[.int k 0] n) t)).rowIs w.heap.size t n (fun _ => .int k 0) := World.rowIs_made w (.int k 0) n t

set_option maxHeartbeats 1600000 in
theorem split_any (a : Option Addr) (m c : Nat) (g : Nat → Int × Int) (w : World) (hm : m ≤ 65536) (hG : HeldG w a m g) :
    Calls Try.prog 11 #[.slice a m c] w fun e w' =>
      ∃ b1 b2, w.heap.size ≤ b1 ∧ w.heap.size ≤ b2 ∧ e = .returned (.tuple #[.slice (some ⟨b1, 0, none⟩) m m, .slice (some ⟨b2, 0, none⟩) m m]) ∧ Below w.heap.size w w' ∧
        w'.rowIs b1 25 m (fun j => .int .u64 (g j).1) ∧ w'.rowIs b2 2 m (fun j => .int .i64 (g j).2) := by
  have hmk1 := run_make_row' (P := Try.prog) 22 25 (.int .u64 0) 8 Try.underlying22 Try.info25 rfl .i64 .i64 m (by omega) (by omega)
  have hmk2 := run_make_row' (P := Try.prog) 23 2 (.int .i64 0) 8 Try.underlying23 Try.info2 rfl .i64 .i64 m (by omega) (by omega)
  go_enter Try.func11, Try.ntmps11
  go_wp2
  obtain ⟨W, hW⟩ : ∃ W, W = ((w.alloc (Obj.cells (madeCells #[.int .u64 0] m) 25)).alloc (Obj.cells (madeCells #[.int .i64 0] m) 2)) := ⟨_, rfl⟩
  rw [← hW]
  have hWb : Below w.heap.size w W := by subst hW; exact ((Below.refl _ _).alloc (Nat.le_refl _) _).alloc (by simp) _
  have hW1 : W.rowIs w.heap.size 25 m (fun _ => .int .u64 0) := by subst hW; exact (madeInt m .u64 w 25).alloc _
  have hW2 : W.rowIs (w.heap.size + 1) 2 m (fun _ => .int .i64 0) := by
    subst hW
    have h := madeInt m .i64 (w.alloc (Obj.cells (madeCells #[.int .u64 0] m) 25)) 2
    simpa using h
  clear hW
  go_loopw [15] (fun i wr => ∃ k : Nat, k ≤ m ∧ i = .int .i64 k ∧ Below w.heap.size w wr ∧ wr.rowIs w.heap.size 25 m (fun j => if j < k then .int .u64 (g j).1 else .int .u64 0) ∧ wr.rowIs (w.heap.size + 1) 2 m (fun j => if j < k then .int .i64 (g j).2 else .int .i64 0)) (fun i _ => m - (intOf i).toNat)
  case atStart => exact ⟨0, Nat.zero_le _, rfl, hWb, hW1.congr (fun j hj => by simp), hW2.congr (fun j hj => by simp)⟩
  case round =>
    obtain ⟨k, hk, rfl, hbel, hr1, hr2⟩ := hrel
    by_cases hlt : k < m
    · obtain ⟨b, rfl, hb, c1, c2⟩ := hG k hlt
      obtain ⟨p, hp⟩ : ∃ p, p = g k := ⟨_, rfl⟩
      have HP : Hid (p = g k) := hp
      have g1 : wr.cell? ⟨b, k * 5 + 1, none⟩ = some (.int .u64 p.1) := by rw [hbel.cell (p := ⟨b, k * 5 + 1, none⟩) hb, hp]; exact c1
      have g2 : wr.cell? ⟨b, k * 5 + 4, none⟩ = some (.int .i64 p.2) := by rw [hbel.cell (p := ⟨b, k * 5 + 4, none⟩) hb, hp]; exact c2
      have d1 := hr1.cell (i := k) hlt
      have d2 := hr2.cell (i := k) hlt
      have z1 := hr1.frozen k
      have z2 := hr2.frozen k
      have hne : ¬ b = w.heap.size := by omega
      have hne1 : ¬ b = w.heap.size + 1 := by omega
      clear hG c1 c2 hp hW1 hW2 hWb
      go_wp2
      go_roundw
      case rel =>
        refine ⟨k + 1, by omega, by go_num, (hbel.setCell (Nat.le_refl _) _).setCell (by simp) _, ((hr1.set k _).setOther (by simp) _).congr (fun j hj => ?_), ((hr2.setOther (by simp) _).set k _).congr (fun j hj => ?_)⟩
        · by_cases e : j = k
          · subst e; simp [HP.out]
          · have e2 : (j < k + 1) = (j < k) := by simp; omega
            simp only [e, if_false, e2]
        · by_cases e : j = k
          · subst e; simp [HP.out]
          · have e2 : (j < k + 1) = (j < k) := by simp; omega
            simp only [e, if_false, e2]
      case measure => simp [intOf]; omega
    · obtain rfl : k = m := by omega
      go_wp2
      go_ret2
      exact ⟨w.heap.size, w.heap.size + 1, Nat.le_refl _, by omega, rfl, hbel, hr1.congr (fun j hj => by simp [hj]), hr2.congr (fun j hj => by simp [hj])⟩

theorem heldG_row {w : World} {b n m : Nat} {g : Nat → Int × Int} (h : w.rowIs b 38 (n * 5) (Kf g)) (hm : m ≤ n) : HeldG w (some ⟨b, 0, none⟩) m g :=
  fun j hj => ⟨b, rfl, h.lt, by rw [h.cell (by omega), Kf1], by rw [h.cell (by omega), Kf4]⟩

set_option maxHeartbeats 1600000 in
theorem ZZunexpired_any (r b : Nat) (G : List (Int × Int)) (now : Int) (w : World) (hn : G.length ≤ 65536) (hrs : r < w.heap.size) (hrec : RecAt w r b G.length (fun j => G.getD j (0, 0))) :
    Calls Try.prog 7 #[.pointer (some ⟨r, 0, none⟩), .int .i64 now] w fun e w' =>
      ∃ b1 b2, w.heap.size ≤ b1 ∧ w.heap.size ≤ b2 ∧
        e = .returned (.tuple #[.slice (some ⟨b1, 0, none⟩) (live now G).length (live now G).length, .slice (some ⟨b2, 0, none⟩) (live now G).length (live now G).length, .bool (decide ((live now G).length = 0)), .int .i64 (G.length - (live now G).length)]) ∧
        But w.heap.size b w w' ∧ w'.rowIs b1 25 (live now G).length (fun j => .int .u64 ((live now G).getD j (0, 0)).1) ∧ w'.rowIs b2 2 (live now G).length (fun j => .int .i64 ((live now G).getD j (0, 0)).2) ∧
        w'.rowIs b 38 (G.length * 5) (Kf (after now G)) := by
  have hun := unexpired_any r b G now w hn hrs hrec
  have hle := live_le now G
  have hbs := hrec.2.2.lt
  obtain ⟨L, hL⟩ : ∃ L, L = live now G := ⟨_, rfl⟩
  have HL : Hid (L = live now G) := hL
  rw [← hL] at hun hle
  rw [← hL]
  obtain ⟨af, haf⟩ : ∃ af, af = after now G := ⟨_, rfl⟩
  have HA : Hid (af = after now G) := haf
  rw [← haf] at hun
  rw [← haf]
  have haf2 : L.length ≠ 0 → ∀ j, af j = L.getD j (0, 0) := by
    intro h j
    rw [haf, hL]; unfold after; rw [if_neg (by rw [← hL]; exact h)]
  have HA2 : Hid (L.length ≠ 0 → ∀ j, af j = L.getD j (0, 0)) := haf2
  clear haf2 haf hL hrec
  generalize G.length = n at *
  obtain ⟨m, hm⟩ : ∃ m, m = L.length := ⟨_, rfl⟩
  rw [← hm] at hun hle HA2
  rw [← hm]
  clear hm HL HA
  have hnil := fun (w : World) (a : Option Addr) (n c : Nat) => Lib.run_eql_slice_nil (P := Try.prog) w 33 38 a n c 0 0 Try.underlying33
  by_cases hm0 : m = 0
  · subst hm0
    go_enter Try.func7, Try.ntmps7
    go_wp2_with fail
    refine hun.mono ?_
    rintro e w1 ⟨rfl, hbut, hrow⟩
    rw [show keptV b 0 n = .slice none 0 0 from rfl]
    go_wp2_with fail
    refine (split_any none 0 0 (fun j => L.getD j (0, 0)) w1 (by omega) (fun j hj => by omega)).mono ?_
    rintro e w2 ⟨b1, b2, h1, h2, rfl, hbel, hr1, hr2⟩
    go_wp2_with fail
    have hsz := hbut.size
    refine bodyPost_ret (v := .tuple #[.slice (some ⟨b1, 0, none⟩) 0 0, .slice (some ⟨b2, 0, none⟩) 0 0, .bool true, .int .i64 n]) (by simp [results, Try.results7, go_sem]) rfl ?_
    exact ⟨b1, b2, by omega, by omega, by simp, hbut.trans (But.of_below (hbel.mono hsz)), hr1, hr2, hrow.of_block (hbel.block _ hrow.lt)⟩
  · go_enter Try.func7, Try.ntmps7
    go_wp2_with fail
    refine hun.mono ?_
    rintro e w1 ⟨rfl, hbut, hrow⟩
    rw [show keptV b m n = .slice (some ⟨b, 0, none⟩) m n from if_neg hm0]
    go_wp2_with fail
    refine (split_any (some ⟨b, 0, none⟩) m n (fun j => L.getD j (0, 0)) w1 (by omega) (heldG_row (hrow.congr (Kf_congr (fun j _ => HA2.out hm0 j))) hle)).mono ?_
    rintro e w2 ⟨b1, b2, h1, h2, rfl, hbel, hr1, hr2⟩
    go_wp2_with fail
    have hsz := hbut.size
    refine bodyPost_ret (v := .tuple #[.slice (some ⟨b1, 0, none⟩) m m, .slice (some ⟨b2, 0, none⟩) m m, .bool false, .int .i64 (n - m)]) (by simp [results, Try.results7, go_sem]) rfl ?_
    exact ⟨b1, b2, by omega, by omega, by simp [hm0], hbut.trans (But.of_below (hbel.mono hsz)), hr1, hr2, hrow.of_block (hbel.block _ hrow.lt)⟩

set_option maxHeartbeats 1600000 in
theorem grantsOf_any (r b n : Nat) (g : Nat → Int × Int) (w : World) (hn : n ≤ 65536) (hrec : RecAt w r b n g) :
    Calls Try.prog 8 #[.pointer (some ⟨r, 0, none⟩)] w fun e w' =>
      ∃ b1 b2, w.heap.size ≤ b1 ∧ w.heap.size ≤ b2 ∧ e = .returned (.tuple #[.slice (some ⟨b1, 0, none⟩) n n, .slice (some ⟨b2, 0, none⟩) n n]) ∧ Below w.heap.size w w' ∧
        w'.rowIs b1 25 n (fun j => .int .u64 (g j).1) ∧ w'.rowIs b2 2 n (fun j => .int .i64 (g j).2) := by
  obtain ⟨hrb, hcell, hrow⟩ := hrec
  go_enter Try.func8, Try.ntmps8
  go_wp2_with fail
  refine (split_any (some ⟨b, 0, none⟩) n n g w hn (heldG_row hrow (Nat.le_refl _))).mono ?_
  rintro e w2 ⟨b1, b2, h1, h2, rfl, hbel, hr1, hr2⟩
  go_wp2_with fail
  go_ret2
  exact ⟨b1, b2, h1, h2, rfl, hbel, hr1, hr2⟩
end Go.Proofs.Qxb6612989a
