import Derived.Test.Qxb6612989aBase
namespace Go.Proofs.Qxb6612989a
open Go.RowKit Go.Deep
set_option linter.unusedVariables false

/-- As 'Below', but for block b. -/
def But (B b : Nat) (w w' : World) : Prop := w'.os = w.os ∧ w'.tape = w.tape ∧ w'.output = w.output ∧ w.heap.size ≤ w'.heap.size ∧ ∀ k, k < B → k ≠ b → w'.heap[k]? = w.heap[k]?
theorem But.refl (B b : Nat) (w : World) : But B b w w := ⟨rfl, rfl, rfl, Nat.le_refl _, fun _ _ _ => rfl⟩
theorem But.trans {B b : Nat} {x y z : World} (h : But B b x y) (k : But B b y z) : But B b x z :=
  ⟨k.1.trans h.1, k.2.1.trans h.2.1, k.2.2.1.trans h.2.2.1, Nat.le_trans h.2.2.2.1 k.2.2.2.1, fun i h1 h2 => (k.2.2.2.2 i h1 h2).trans (h.2.2.2.2 i h1 h2)⟩
theorem But.mono {B B' b : Nat} {w w' : World} (h : But B b w w') (hB : B' ≤ B) : But B' b w w' := ⟨h.1, h.2.1, h.2.2.1, h.2.2.2.1, fun k h1 h2 => h.2.2.2.2 k (Nat.lt_of_lt_of_le h1 hB) h2⟩
theorem But.size {B b : Nat} {w w' : World} (h : But B b w w') : w.heap.size ≤ w'.heap.size := h.2.2.2.1
theorem But.of_below {B b : Nat} {w w' : World} (h : Below B w w') : But B b w w' := ⟨h.os, h.tape, h.output, h.size, fun k h1 _ => h.block k h1⟩
theorem But.alloc {B b : Nat} {x w : World} (h : But B b x w) (hB : B ≤ w.heap.size) (o : Obj) : But B b x (w.alloc o) := h.trans (But.of_below ((Below.refl _ _).alloc hB o))
theorem But.drew {B b : Nat} {x w : World} (h : But B b x w) : But B b x w.drew := h
theorem But.setCell {B b : Nat} {x w : World} (h : But B b x w) (o : Nat) (u : Value) : But B b x (w.setCell ⟨b, o, none⟩ u) :=
  h.trans ⟨rfl, rfl, rfl, by simp [World.setCell], fun k h1 h2 => Below.heap_setCell _ _ _ _ (by simpa using h2)⟩
theorem But.cell {B b : Nat} {w w' : World} (h : But B b w w') {p : Addr} (hp : p.block < B) (hn : p.block ≠ b) : w'.cell? p = w.cell? p := World.cell?_of_block (w := w) (h.2.2.2.2 p.block hp hn)
theorem But.below {B B' b : Nat} {x w w' : World} (h : Below B x w) (k : But B' b w w') (hB : B ≤ B') (hb : B ≤ b) : Below B x w' :=
  h.trans ⟨k.1, k.2.1, k.2.2.1, k.2.2.2.1, fun i hi => k.2.2.2.2 i (Nat.lt_of_lt_of_le hi hB) (by omega)⟩
theorem But.rowIs {B b c : Nat} {t : TypeId} {n : Nat} {f : Nat → Value} {w w' : World} (h : But B b w w') (hr : w.rowIs c t n f) (hc : c < B) (hn : c ≠ b) : w'.rowIs c t n f := hr.of_block (h.2.2.2.2 c hc hn)

/-- 'clear(r.grants[c:])', c < n -/
theorem clear38 (w : World) (b n c : Nat) (f : Nat → Value) (hrow : w.rowIs b 38 (n * 5) f) (hc : c < n) :
    ∃ W2, (∀ ty cp, (Builtin.clear_ #[33] ty #[.slice (some ⟨b, c * 5, none⟩) (n - c) cp]).run Try.prog w = .ok (.tuple #[]) W2) ∧ But w.heap.size b w W2 ∧
      W2.rowIs b 38 (n * 5) (fun i => if i < c * 5 then f i else Kf (fun _ => (0, 0)) i) := by
  obtain ⟨cur, hcur, hsz, hval⟩ := hrow
  have hz : ∀ w : World, (zeroValue 38).run Try.prog w = .ok (.agg #[.string ⟨#[]⟩, .int .u64 0, .int .i64 0, .int .i64 0, .int .i64 0]) w := by
    intro w
    obtain ⟨i0, hi, hz0, hz1, hz2⟩ := info_parts Try.info38
    simp [zeroValue, typeInfo, hi, hz0]
  obtain ⟨vs, hvs⟩ : ∃ vs, vs = (Builtin.zeroCells (Value.agg #[.string ⟨#[]⟩, .int .u64 0, .int .i64 0, .int .i64 0, .int .i64 0]).cells (n - c)).toList := ⟨_, rfl⟩
  have hlen : vs.length = (n - c) * 5 := by rw [hvs]; simp [Builtin.zeroCells, Value.cells]
  have hget : ∀ i, i < (n - c) * 5 → vs[i]? = some (Kf (fun _ => (0, 0)) i) := by
    intro i hi
    rw [hvs]
    have hr : i % 5 = 0 ∨ i % 5 = 1 ∨ i % 5 = 2 ∨ i % 5 = 3 ∨ i % 5 = 4 := by omega
    rcases hr with h | h | h | h | h <;> simp [Builtin.zeroCells, Value.cells, hi, Kf, h]
  have hone : ∀ v ∈ vs, v.oneCell' = true := by
    intro v hv
    obtain ⟨i, hi, rfl⟩ := List.getElem_of_mem hv
    have h := hget i (by omega)
    rw [List.getElem?_eq_getElem hi] at h
    rw [Option.some.inj h]
    unfold Kf
    split
    · rfl
    · split
      · rfl
      · split <;> rfl
  have hst := run_storeCells_at (P := Try.prog) b (c * 5) 38 vs 0 cur w hcur (by omega) hone
  refine ⟨w.setRow b (cur.toList.take (c * 5 + 0) ++ vs ++ cur.toList.drop (c * 5 + 0 + vs.length)).toArray, fun ty cp => ?_, ?_, ?_⟩
  rotate_left
  · exact But.of_below ((Below.refl _ _)) |>.trans ⟨rfl, rfl, rfl, by simp, fun k _ h2 => setRow_other w b k _ h2⟩
  · refine ⟨_, setRow_heap w b cur _ 38 (0, 0) hcur, ?_, ?_⟩
    · simp [hlen]; omega
    · intro i hi
      have hcl : cur.toList.length = n * 5 := by simp [hsz]
      by_cases h1 : i < c * 5
      · have hv := hval i hi
        simp only [h1, if_true]
        rw [List.getElem?_toArray, List.append_assoc, List.getElem?_append_left (by simp [hsz]; omega), List.getElem?_take, if_pos (by omega)]
        simpa using hv
      · simp only [h1, if_false]
        rw [List.getElem?_toArray, List.append_assoc, List.getElem?_append_right (by simp; omega), List.getElem?_append_left (by simp [hsz]; omega)]
        have e : (cur.toList.take (c * 5 + 0)).length = c * 5 := by simp [hsz]; omega
        rw [e, hget (i - c * 5) (by omega)]
        unfold Kf
        rw [show (i - c * 5) % 5 = i % 5 from by omega]
  · obtain ⟨m, hm⟩ : ∃ m, n - c = m + 1 := ⟨n - c - 1, by omega⟩
    rw [hm] at hvs ⊢
    simp [Builtin.clear_, run_underlying Try.underlying33, hz, ← hvs, hst]

theorem inForce_any (t u now : Int) (w : World) :
    Calls Try.prog 12 #[.agg #[.string ⟨#[]⟩, .int .u64 t, .int .i64 0, .int .i64 0, .int .i64 u], .int .i64 now] w fun e w' => e = .returned (.bool (decide (now < u))) ∧ w' = w.alloc (.cells #[.string ⟨#[]⟩, .int .u64 t, .int .i64 0, .int .i64 0, .int .i64 u] 38) := by
  go_enter Try.func12, Try.ntmps12
  go_wp2
  go_ret
  exact ⟨rfl, rfl⟩

/-! ### the plain law of the loop -/
def live (now : Int) (G : List (Int × Int)) : List (Int × Int) := G.filter (fun p => decide (now < p.2))
theorem live_take_le (now : Int) (G : List (Int × Int)) (k : Nat) : (live now (G.take k)).length ≤ k :=
  Nat.le_trans (List.length_filter_le _ _) (List.length_take_le _ _)
theorem live_le (now : Int) (G : List (Int × Int)) : (live now G).length ≤ G.length := List.length_filter_le _ _
theorem take_snoc (G : List (Int × Int)) (k : Nat) (h : k < G.length) : G.take (k + 1) = G.take k ++ [G.getD k (0, 0)] := by
  rw [List.take_succ_eq_append_getElem h]
  simp [h]
theorem live_yes (now : Int) (G : List (Int × Int)) (k : Nat) (h : k < G.length) (hu : now < (G.getD k (0, 0)).2) : live now (G.take (k + 1)) = live now (G.take k) ++ [G.getD k (0, 0)] := by
  rw [take_snoc G k h]; unfold live; rw [List.filter_append]; congr 1; rw [List.filter_cons, if_pos (decide_eq_true hu)]; rfl
theorem live_no (now : Int) (G : List (Int × Int)) (k : Nat) (h : k < G.length) (hu : ¬ now < (G.getD k (0, 0)).2) : live now (G.take (k + 1)) = live now (G.take k) := by
  rw [take_snoc G k h]; unfold live; rw [List.filter_append, List.filter_cons, if_neg (by simpa using hu)]; simp
def mid (now : Int) (G : List (Int × Int)) (k j : Nat) : Int × Int := if j < (live now (G.take k)).length then (live now (G.take k)).getD j (0, 0) else G.getD j (0, 0)
theorem mid_at (now : Int) (G : List (Int × Int)) (k : Nat) : mid now G k k = G.getD k (0, 0) := by
  unfold mid
  rw [if_neg (by have := live_take_le now G k; omega)]
theorem mid_yes (now : Int) (G : List (Int × Int)) (k : Nat) (h : k < G.length) (hu : now < (G.getD k (0, 0)).2) (j : Nat) :
    (if j = (live now (G.take k)).length then G.getD k (0, 0) else mid now G k j) = mid now G (k + 1) j := by
  unfold mid
  rw [live_yes now G k h hu]
  generalize live now (G.take k) = l
  generalize G.getD k (0, 0) = p
  by_cases e : j = l.length
  · subst e; simp
  · by_cases e2 : j < l.length
    · have e3 : j < l.length + 1 := by omega
      simp [e, e2, e3]
    · have e3 : ¬ j < l.length + 1 := by omega
      simp [e, e2, e3]
theorem mid_no (now : Int) (G : List (Int × Int)) (k : Nat) (h : k < G.length) (hu : ¬ now < (G.getD k (0, 0)).2) : mid now G (k + 1) = mid now G k := by
  funext j; unfold mid; rw [live_no now G k h hu]

/-- What unexpired hands back and leaves. -/
def keptV (b m n : Nat) : Value := if m = 0 then .slice none 0 0 else .slice (some ⟨b, 0, none⟩) m n
def after (now : Int) (G : List (Int × Int)) (j : Nat) : Int × Int := if (live now G).length = 0 then G.getD j (0, 0) else (live now G).getD j (0, 0)

theorem step5 {B b c N : Nat} {w wr : World} {f : Nat → Int × Int} {t u : Int} (hbut : But B b w wr) (hrow : wr.rowIs b 38 N (Kf f)) (hsz : B ≤ wr.heap.size) (o1 o2 : Obj) :
    But B b w (((((((wr.setCell ⟨b, c * 5, none⟩ (.string ⟨#[]⟩)).setCell ⟨b, c * 5 + 1, none⟩ (.int .u64 t)).setCell ⟨b, c * 5 + 2, none⟩ (.int .i64 0)).setCell ⟨b, c * 5 + 3, none⟩ (.int .i64 0)).setCell ⟨b, c * 5 + 4, none⟩ (.int .i64 u)).alloc o1).alloc o2).drew ∧
    (((((((wr.setCell ⟨b, c * 5, none⟩ (.string ⟨#[]⟩)).setCell ⟨b, c * 5 + 1, none⟩ (.int .u64 t)).setCell ⟨b, c * 5 + 2, none⟩ (.int .i64 0)).setCell ⟨b, c * 5 + 3, none⟩ (.int .i64 0)).setCell ⟨b, c * 5 + 4, none⟩ (.int .i64 u)).alloc o1).alloc o2).drew.rowIs b 38 N (Kf (fun j => if j = c then (t, u) else f j)) := by
  have h5 := rowIs_set5 (c := c) (t := t) (u := u) hrow
  have b5 := ((((hbut.setCell (c * 5) (.string ⟨#[]⟩)).setCell (c * 5 + 1) (.int .u64 t)).setCell (c * 5 + 2) (.int .i64 0)).setCell (c * 5 + 3) (.int .i64 0)).setCell (c * 5 + 4) (.int .i64 u)
  have hs : ((((((wr.setCell ⟨b, c * 5, none⟩ (.string ⟨#[]⟩)).setCell ⟨b, c * 5 + 1, none⟩ (.int .u64 t)).setCell ⟨b, c * 5 + 2, none⟩ (.int .i64 0)).setCell ⟨b, c * 5 + 3, none⟩ (.int .i64 0)).setCell ⟨b, c * 5 + 4, none⟩ (.int .i64 u))).heap.size = wr.heap.size := by simp [World.setCell]
  generalize ((((wr.setCell ⟨b, c * 5, none⟩ (.string ⟨#[]⟩)).setCell ⟨b, c * 5 + 1, none⟩ (.int .u64 t)).setCell ⟨b, c * 5 + 2, none⟩ (.int .i64 0)).setCell ⟨b, c * 5 + 3, none⟩ (.int .i64 0)).setCell ⟨b, c * 5 + 4, none⟩ (.int .i64 u) = W at *
  exact ⟨((b5.alloc (by omega) o1).alloc (by simp; omega) o2).drew, ((h5.alloc o1).alloc o2).drew⟩

set_option maxHeartbeats 1600000 in
theorem unexpired_any (r b : Nat) (G : List (Int × Int)) (now : Int) (w : World) (hn : G.length ≤ 65536) (hrs : r < w.heap.size) (hrec : RecAt w r b G.length (fun j => G.getD j (0, 0))) :
    Calls Try.prog 10 #[.pointer (some ⟨r, 0, none⟩), .int .i64 now] w fun e w' =>
      e = .returned (.tuple #[keptV b (live now G).length G.length, .int .i64 (G.length - (live now G).length)]) ∧ But w.heap.size b w w' ∧ w'.rowIs b 38 (G.length * 5) (Kf (after now G)) := by
  obtain ⟨hrb, hcell, hrow0⟩ := hrec
  obtain ⟨n, hG⟩ : ∃ n, n = G.length := ⟨_, rfl⟩
  have HG : Hid (n = G.length) := hG
  rw [← hG] at hn hcell hrow0
  rw [← hG]
  clear hG
  have hbs := hrow0.lt
  go_enter Try.func10, Try.ntmps10
  go_wp2
  go_loopw [6, 15] (fun m i wr => ∃ k c : Nat, k ≤ n ∧ i = .int .i64 k ∧ m = .int .i64 c ∧ c ≤ k ∧ Hid (c = (live now (G.take k)).length) ∧ But w.heap.size b w wr ∧ wr.rowIs b 38 (n * 5) (Kf (mid now G k))) (fun _ i _ => n - (intOf i).toNat)
  case atStart => exact ⟨0, 0, Nat.zero_le _, rfl, rfl, Nat.le_refl _, rfl, But.refl _ _ _, hrow0.congr (Kf_congr (fun j hj => by simp [mid, live]))⟩
  case round =>
    obtain ⟨k, c, hk, rfl, rfl, hck, HC, hbut, hrow⟩ := hrel
    by_cases hlt : k < n
    · have hsz := hbut.size
      have hb2 : b < wr.heap.size := by omega
      have hr2 : r < wr.heap.size := by omega
      have hcr : wr.cell? ⟨r, 2, none⟩ = some (.slice (some ⟨b, 0, none⟩) n n) := by rw [hbut.cell (p := ⟨r, 2, none⟩) hrs hrb]; exact hcell
      obtain ⟨p, hp⟩ : ∃ p, p = G.getD k (0, 0) := ⟨_, rfl⟩
      have HP : Hid (p = G.getD k (0, 0)) := hp
      have d0 : wr.cell? ⟨b, k * 5, none⟩ = some (.string ⟨#[]⟩) := by rw [hrow.cell (by omega), Kf0]
      have d1 : wr.cell? ⟨b, k * 5 + 1, none⟩ = some (.int .u64 p.1) := by rw [hrow.cell (by omega), Kf1, mid_at, hp]
      have d2 : wr.cell? ⟨b, k * 5 + 2, none⟩ = some (.int .i64 0) := by rw [hrow.cell (by omega), Kf2]
      have d3 : wr.cell? ⟨b, k * 5 + 3, none⟩ = some (.int .i64 0) := by rw [hrow.cell (by omega), Kf3]
      have d4 : wr.cell? ⟨b, k * 5 + 4, none⟩ = some (.int .i64 p.2) := by rw [hrow.cell (by omega), Kf4, mid_at, hp]
      clear hp
      by_cases hu : now < p.2
      · have f0 := hrow.cell (i := c * 5) (by omega)
        have f1 := hrow.cell (i := c * 5 + 1) (by omega)
        have f2 := hrow.cell (i := c * 5 + 2) (by omega)
        have f3 := hrow.cell (i := c * 5 + 3) (by omega)
        have f4 := hrow.cell (i := c * 5 + 4) (by omega)
        have z0 := hrow.frozen (c * 5)
        have z1 := hrow.frozen (c * 5 + 1)
        have z2 := hrow.frozen (c * 5 + 2)
        have z3 := hrow.frozen (c * 5 + 3)
        have z4 := hrow.frozen (c * 5 + 4)
        have HC2 : Hid (c + 1 = (live now (G.take (k + 1))).length) := by
          have h1 := HC.out; have h2 := HP.out
          show c + 1 = _
          rw [live_yes now G k (by have := HG.out; omega) (by rw [← h2]; exact hu), List.length_append, ← h1]; rfl
        have HM : Hid (∀ j, j < n → (if j = c then (p.1, p.2) else mid now G k j) = mid now G (k + 1) j) := by
          intro j hj
          rw [← mid_yes now G k (by have := HG.out; omega) (by rw [← HP.out]; exact hu) j, ← HC.out, ← HP.out]
        go_wp2
        go_region
        all_goals go_wp2
        go_roundw
        case rel =>
          have R := step5 (c := c) (t := p.1) (u := p.2) hbut hrow hsz (Obj.cells #[.string ⟨#[]⟩, .int .u64 p.1, .int .i64 0, .int .i64 0, .int .i64 p.2] 38) (Obj.cells #[.string ⟨#[]⟩, .int .u64 p.1, .int .i64 0, .int .i64 0, .int .i64 p.2] 38)
          exact ⟨k + 1, c + 1, by omega, by go_num, by go_num, by omega, HC2, R.1, R.2.congr (Kf_congr HM.out)⟩
        case measure => simp [intOf]; omega
      · have HC2 : Hid (c = (live now (G.take (k + 1))).length) := by
          have h1 := HC.out; have h2 := HP.out
          show c = _
          rw [live_no now G k (by have := HG.out; omega) (by rw [← h2]; exact hu)]; exact h1
        have hmid : mid now G (k + 1) = mid now G k := mid_no now G k (by have := HG.out; omega) (by have h2 := HP.out; rw [← h2]; exact hu)
        have hrow' : wr.rowIs b 38 (n * 5) (Kf (mid now G (k + 1))) := by rw [hmid]; exact hrow
        clear hmid hrow
        go_wp2
        go_roundw
        case rel => exact ⟨k + 1, c, by omega, by go_num, rfl, by omega, HC2, (hbut.alloc (by omega) _).alloc (by simp; omega) _, (hrow'.alloc _).alloc _⟩
        case measure => simp [intOf]; omega
    · obtain rfl : k = n := by omega
      have hcn : c = (live now G).length := by
        have h1 := HC.out; have h2 := HG.out
        rw [List.take_of_length_le (by omega)] at h1; exact h1
      have hcr : wr.cell? ⟨r, 2, none⟩ = some (.slice (some ⟨b, 0, none⟩) k k) := by rw [hbut.cell (p := ⟨r, 2, none⟩) hrs hrb]; exact hcell
      have hmid : ∀ j, j < k → mid now G k j = if j < c then (live now G).getD j (0, 0) else G.getD j (0, 0) := by
        intro j hj
        unfold mid
        rw [List.take_of_length_le (by have := HG.out; omega), hcn]
      have HN : Hid (c = (live now G).length) := hcn
      have HM : Hid (∀ j, j < k → mid now G k j = if j < c then (live now G).getD j (0, 0) else G.getD j (0, 0)) := hmid
      clear hcn hmid hrow0
      by_cases hc0 : c = 0
      · subst hc0
        go_wp2
        go_ret2
        refine ⟨?_, hbut, hrow.congr (Kf_congr (fun j hj => ?_))⟩
        · rw [← HN.out]; rfl
        · rw [HM.out j hj]; unfold after; rw [← HN.out]; simp
      · have hz : ((c : Int) == 0) = false := by simp; omega
        by_cases hcn : c = k
        · subst hcn
          have hcl0 : ∀ (w : World) ty, (Builtin.clear_ #[33] ty #[.slice (some ⟨b, 0, none⟩) 0 0]).run Try.prog w = .ok (.tuple #[]) w := fun w ty => by simp [Builtin.clear_, run_underlying Try.underlying33]
          go_wp2
          go_ret2
          refine ⟨?_, hbut, hrow.congr (Kf_congr (fun j hj => ?_))⟩
          · rw [← HN.out]; simp [keptV, hc0]
          · rw [HM.out j hj]; unfold after; rw [← HN.out]; simp [hc0, hj]
        · obtain ⟨W2, hcl, hbut2, hrow2⟩ := clear38 wr b k c _ hrow (by omega)
          have hcr2 : W2.cell? ⟨r, 2, none⟩ = some (.slice (some ⟨b, 0, none⟩) k k) := by rw [hbut2.cell (p := ⟨r, 2, none⟩) (by have := hbut.size; show r < _; omega) hrb]; exact hcr
          go_wp2
          go_ret2
          refine ⟨?_, hbut.trans (hbut2.mono hbut.size), hrow2.congr (fun i hi => ?_)⟩
          · rw [← HN.out]; simp [keptV, hc0]
          · by_cases h1 : i < c * 5
            · simp only [h1, if_true]
              unfold Kf
              have e1 : mid now G k (i / 5) = after now G (i / 5) := by
                rw [HM.out _ (by omega)]; unfold after; rw [← HN.out, if_pos (by omega), if_neg hc0]
              rw [e1]
            · simp only [h1, if_false]
              unfold Kf
              have e1 : after now G (i / 5) = (0, 0) := by
                unfold after; rw [← HN.out, if_neg hc0, List.getD_eq_getElem?_getD, List.getElem?_eq_none (by rw [← HN.out]; omega)]; rfl
              rw [e1]
end Go.Proofs.Qxb6612989a
