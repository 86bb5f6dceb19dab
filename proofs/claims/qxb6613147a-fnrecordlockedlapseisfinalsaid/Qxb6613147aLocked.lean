import Derived.Test.Qxb6613147aStore
import Derived.Deep.RegionHeld3
import Derived.Deep.QuietTactic
import Derived.BigQuiet
import Derived.WalkSpells
namespace Go.Proofs.Qxb6613147a
open Go.RowKit
set_option linter.unusedVariables false

theorem below_drewN {B : Nat} {x w : World} (h : Below B x w) (n : Nat) : Below B x (w.drewN n) :=
  h.trans ⟨rfl, rfl, rfl, Nat.le_refl _, fun _ _ => rfl⟩

/-- R1: another key's entry is not looked at -/
theorem locked_miss (w : World) (sb mb rb cb : Nat) (k key : ByteArray) (fin : Bool) (ends now : Int) (hne : k ≠ key) (h : Full w sb mb rb cb key fin ends) :
    Calls Try.prog 18 #[.pointer (some ⟨sb, 0, none⟩), .string k, .agg #[.int .u64 (tN now : Int), .int .i64 (tS now), .pointer none]] w fun e w' => e = .returned (.pointer none) ∧ Below w.heap.size w w' := by
  have hlt := World.block_lt_of_cell? w _ h.1
  have hc := h.1
  have hl := fun o => run_lookup_miss (w.alloc o) mb k key hne _ 0 1 (heap_below ((Below.refl w.heap.size w).alloc (Nat.le_refl _) o) h.2.1)
  clear h hne
  go_enter Try.func18, Try.ntmps18
  go_wp2
  go_quiet (fail)
  go_wp2
  go_ret
  exact ⟨rfl, below_drewN ((Below.refl _ _).alloc (Nat.le_refl _) _) _⟩

theorem locked_empt (w : World) (sb mb : Nat) (k : ByteArray) (now : Int) (h : Empt w sb mb) :
    Calls Try.prog 18 #[.pointer (some ⟨sb, 0, none⟩), .string k, .agg #[.int .u64 (tN now : Int), .int .i64 (tS now), .pointer none]] w fun e w' => e = .returned (.pointer none) ∧ Below w.heap.size w w' := by
  have hlt := World.block_lt_of_cell? w _ h.1
  have hc := h.1
  have hl := fun o => run_lookup_empty (w.alloc o) mb k 1 (heap_below ((Below.refl w.heap.size w).alloc (Nat.le_refl _) o) h.2)
  clear h
  go_enter Try.func18, Try.ntmps18
  go_wp2
  go_quiet (fail)
  go_wp2
  go_ret
  exact ⟨rfl, below_drewN ((Below.refl _ _).alloc (Nat.le_refl _) _) _⟩
theorem Full.boxed {w : World} {sb mb rb cb : Nat} {key : ByteArray} {fin : Bool} {ends : Int} (h : Full w sb mb rb cb key fin ends) (o : Obj) : Full (w.alloc o) sb mb rb cb key fin ends :=
  h.below ((Below.refl w.heap.size w).alloc (Nat.le_refl _) o)

theorem locked_fin (w : World) (sb mb rb cb : Nat) (key : ByteArray) (ends now : Int) (h : Full w sb mb rb cb key true ends) :
    Calls Try.prog 18 #[.pointer (some ⟨sb, 0, none⟩), .string key, .agg #[.int .u64 (tN now : Int), .int .i64 (tS now), .pointer none]] w fun e w' => e = .returned (.pointer (some ⟨rb, 0, none⟩)) ∧ Below w.heap.size w w' := by
  have hlt := World.block_lt_of_cell? w _ h.1
  have hc := h.1
  have hl := fun o => run_lookup_hit (w.alloc o) mb key _ 0 1 (h.boxed o).2.1
  have h2 := fun o => (h.boxed o).cell 2 (by omega)
  simp only [recCells, List.getElem?_toArray, List.getElem?_cons_succ, List.getElem?_cons_zero] at h2
  clear h
  go_enter Try.func18, Try.ntmps18
  go_wp2
  go_quiet (fail)
  go_wp2
  go_ret
  exact ⟨rfl, below_drewN ((Below.refl _ _).alloc (Nat.le_refl _) _) _⟩

set_option maxRecDepth 100000 in
set_option maxHeartbeats 1600000 in
theorem locked_live (w : World) (sb mb rb cb : Nat) (key : ByteArray) (ends now : Int) (hd : decide (now < ends) = true) (h : Full w sb mb rb cb key false ends) :
    Calls Try.prog 18 #[.pointer (some ⟨sb, 0, none⟩), .string key, .agg #[.int .u64 (tN now : Int), .int .i64 (tS now), .pointer none]] w fun e w' => e = .returned (.pointer (some ⟨rb, 0, none⟩)) ∧ Below w.heap.size w w' := by
  have hlt := World.block_lt_of_cell? w _ h.1
  have hc := h.1
  have hl := fun o => run_lookup_hit (w.alloc o) mb key _ 0 1 (h.boxed o).2.1
  have h2 := fun o => (h.boxed o).cell 2 (by omega)
  have h8 := fun o => (h.boxed o).cell 8 (by omega)
  have h9 := fun o => (h.boxed o).cell 9 (by omega)
  have h10 := fun o => (h.boxed o).cell 10 (by omega)
  simp only [recCells, List.getElem?_toArray, List.getElem?_cons_succ, List.getElem?_cons_zero] at h2 h8 h9 h10
  have HB : Hid (∀ w, Calls Try.prog 22 #[.agg #[.int .u64 (tN now : Int), .int .i64 (tS now), .pointer none], .agg #[.int .u64 (tN ends : Int), .int .i64 (tS ends), .pointer none]] w fun e w' => e = .returned (.bool true) ∧ Below w.heap.size w w') := fun w => (before_any now ends w).mono (by rintro e w' ⟨rfl, hb⟩; exact ⟨by rw [hd], hb⟩)
  clear h hd
  go_enter Try.func18, Try.ntmps18
  go_wp2
  go_region_with (go_at_call 22; (refine (HB.out _).mono ?_; rintro e w22 ⟨rfl, hb22⟩; have k22 : Below w.heap.size w w22 := Below.trans (by repeat (first | exact Below.refl _ _ | refine Below.drew ?_ | refine Below.alloc ?_ (by simp) _)) (hb22.mono (by simp))))
  all_goals (go_wp2; go_ret)
  all_goals exact ⟨rfl, k22⟩
theorem Full.ne {w : World} {sb mb rb cb : Nat} {key : ByteArray} {fin : Bool} {ends : Int} (h : Full w sb mb rb cb key fin ends) : rb ≠ mb ∧ cb ≠ mb ∧ sb ≠ mb ∧ rb ≠ cb ∧ sb ≠ cb := by
  obtain ⟨h1, h2, h3, h4⟩ := h
  refine ⟨?_, ?_, ?_, ?_, ?_⟩
  · rintro rfl; rw [h2] at h3; simp at h3
  · rintro rfl; rw [h2] at h4; simp at h4
  · rintro rfl; simp [World.cell?, h2] at h1
  · rintro rfl; rw [h3] at h4; simp at h4
  · rintro rfl; simp [World.cell?, h4] at h1

/-- the world after the lapsed record is dropped -/
def dropped (w : World) (mb cb : Nat) : World := put (put w mb (.map #[] 1)) cb (.chan 0 #[] true 0 0 false)
theorem Full.dropped {w : World} {sb mb rb cb : Nat} {key : ByteArray} {fin : Bool} {ends : Int} (h : Full w sb mb rb cb key fin ends) : Empt (dropped w mb cb) sb mb := by
  obtain ⟨n1, n2, n3, n4, n5⟩ := h.ne
  refine ⟨?_, ?_⟩
  · rw [Qxb6613147a.dropped, put_cell _ _ _ _ n5, put_cell _ _ _ _ n3]; exact h.1
  · rw [Qxb6613147a.dropped, put_other _ _ _ _ (Ne.symm n2)]; exact put_same _ _ _ _ h.2.1
theorem Full.dropped_below {w : World} {sb mb rb cb : Nat} {key : ByteArray} {fin : Bool} {ends : Int} (h : Full w sb mb rb cb key fin ends) {x : World} {B : Nat} (hx : Below B x w) (h1 : B ≤ mb) (h2 : B ≤ cb) : Below B x (Qxb6613147a.dropped w mb cb) :=
  put_below (put_below hx _ h1 _) _ h2 _

set_option maxRecDepth 100000 in
set_option maxHeartbeats 1600000 in
theorem locked_lapsed (w : World) (sb mb rb cb : Nat) (key : ByteArray) (ends now : Int) (hd : decide (now < ends) = false) (h : Full w sb mb rb cb key false ends) :
    Calls Try.prog 18 #[.pointer (some ⟨sb, 0, none⟩), .string key, .agg #[.int .u64 (tN now : Int), .int .i64 (tS now), .pointer none]] w fun e w' => e = .returned (.pointer none) ∧ Empt w' sb mb ∧ ∀ B, B ≤ mb → B ≤ cb → B ≤ w.heap.size → Below B w w' := by
  have HF : Hid (Full w sb mb rb cb key false ends) := h
  have hlt := World.block_lt_of_cell? w _ h.1
  have hc := h.1
  have hl := fun o => run_lookup_hit (w.alloc o) mb key _ 0 1 (h.boxed o).2.1
  have h2 := fun o => (h.boxed o).cell 2 (by omega)
  have h8 := fun o => (h.boxed o).cell 8 (by omega)
  have h9 := fun o => (h.boxed o).cell 9 (by omega)
  have h10 := fun o => (h.boxed o).cell 10 (by omega)
  simp only [recCells, List.getElem?_toArray, List.getElem?_cons_succ, List.getElem?_cons_zero] at h2 h8 h9 h10
  have HB : Hid (∀ w, Calls Try.prog 22 #[.agg #[.int .u64 (tN now : Int), .int .i64 (tS now), .pointer none], .agg #[.int .u64 (tN ends : Int), .int .i64 (tS ends), .pointer none]] w fun e w' => e = .returned (.bool false) ∧ Below w.heap.size w w') := fun w => (before_any now ends w).mono (by rintro e w' ⟨rfl, hb⟩; exact ⟨by rw [hd], hb⟩)
  clear h hd
  go_enter Try.func18, Try.ntmps18
  go_wp2
  go_region_with (go_at_call 22; (refine (HB.out _).mono ?_; rintro e w22 ⟨rfl, hb22⟩; have k22 : Below w.heap.size w w22 := Below.trans (by repeat (first | exact Below.refl _ _ | refine Below.drew ?_ | refine Below.alloc ?_ (by simp) _)) (hb22.mono (by simp))))
  all_goals
    have F22 := HF.out.below k22
    have H22 : Hid (Full w22 sb mb rb cb key false ends) := F22
    have K22 : Hid (Below w.heap.size w w22) := k22
    have hc22 := F22.1
    have hd22 := fun ty => run_delete_hit w22 mb key _ 0 1 ty F22.2.1
    have h11 : (put w22 mb (.map #[] 1)).cell? ⟨rb, 11, none⟩ = some (.chan (some cb)) := by
      rw [put_cell _ _ _ _ F22.ne.1, F22.cell 11 (by omega)]; rfl
    have hcl := fun ats ty => run_close (put w22 mb (.map #[] 1)) cb ats ty (by rw [put_other _ _ _ _ F22.ne.2.1]; exact F22.2.2.2)
    clear F22 k22 hb22 hc hl h2 h8 h9 h10 HB HF
    go_wp2
    go_ret
    exact ⟨rfl, H22.out.dropped, fun B b1 b2 b3 => H22.out.dropped_below (K22.out.mono b3) b1 b2⟩
end Go.Proofs.Qxb6613147a
