import Derived.Test.Qxb6613126aProg
import Derived.WalkKit
import Derived.WalkLawsBesides
import Derived.WalkSpells
import Derived.Deep.RegionWith
import Derived.Deep.OwnRows
namespace Go.Proofs.Qxb6613126a
open Go.RowKit
set_option linter.unusedVariables false

/-- the word "alias" -/
def aliasB : ByteArray := ⟨#[97, 108, 105, 97, 115]⟩

/-- A key node at block k whose member's name is 'text': a node without an alias, or an alias of a node with that text. -/
def KeyOf (w : World) (k : Nat) (text : ByteArray) : Prop :=
  (∃ kind, w.cell? ⟨k, 0, none⟩ = some (.string kind) ∧ w.cell? ⟨k, 5, none⟩ = some (.pointer none) ∧ w.cell? ⟨k, 3, none⟩ = some (.string text)) ∨
  (∃ t, w.cell? ⟨k, 0, none⟩ = some (.string ⟨#[97, 108, 105, 97, 115]⟩) ∧ w.cell? ⟨k, 5, none⟩ = some (.pointer (some ⟨t, 0, none⟩)) ∧ w.cell? ⟨t, 3, none⟩ = some (.string text))

theorem cell_below {w w' : World} (hb : Below w.heap.size w w') {a : Addr} {v : Value} (h : w.cell? a = some v) : w'.cell? a = some v := by
  rw [hb.cell (World.block_lt_of_cell? w _ h)]; exact h

theorem KeyOf.below {w w' : World} {k : Nat} {text : ByteArray} (h : KeyOf w k text) (hb : Below w.heap.size w w') : KeyOf w' k text := by
  rcases h with ⟨kind, h1, h2, h3⟩ | ⟨t, h1, h2, h3⟩
  · exact .inl ⟨kind, cell_below hb h1, cell_below hb h2, cell_below hb h3⟩
  · exact .inr ⟨t, cell_below hb h1, cell_below hb h2, cell_below hb h3⟩

theorem resolve_self (k : Nat) (kind : ByteArray) (w : World) (h0 : w.cell? ⟨k, 0, none⟩ = some (.string kind)) (h5 : w.cell? ⟨k, 5, none⟩ = some (.pointer none)) :
    Calls Try.prog 14 #[.pointer (some ⟨k, 0, none⟩)] w fun e w' => e = .returned (.pointer (some ⟨k, 0, none⟩)) ∧ w = w' := by
  go_enter Try.func14, Try.ntmps14
  go_wp2
  all_goals (go_ret; exact ⟨rfl, rfl⟩)

theorem resolve_alias (k t : Nat) (w : World) (h0 : w.cell? ⟨k, 0, none⟩ = some (.string ⟨#[97, 108, 105, 97, 115]⟩)) (h5 : w.cell? ⟨k, 5, none⟩ = some (.pointer (some ⟨t, 0, none⟩))) :
    Calls Try.prog 14 #[.pointer (some ⟨k, 0, none⟩)] w fun e w' => e = .returned (.pointer (some ⟨t, 0, none⟩)) ∧ w = w' := by
  go_enter Try.func14, Try.ntmps14
  go_wp2
  all_goals (go_ret; exact ⟨rfl, rfl⟩)

theorem memberName_any (k : Nat) (text : ByteArray) (w : World) (h : KeyOf w k text) :
    Calls Try.prog 13 #[.pointer (some ⟨k, 0, none⟩)] w fun e w' => e = .returned (.string text) ∧ w = w' := by
  rcases h with ⟨kind, h1, h2, h3⟩ | ⟨t, h1, h2, h3⟩
  · go_enter Try.func13, Try.ntmps13
    go_wp2_with fail
    refine (resolve_self k kind w h1 h2).mono ?_
    rintro e w' ⟨rfl, rfl⟩
    go_wp2
    go_ret
    exact ⟨rfl, rfl⟩
  · go_enter Try.func13, Try.ntmps13
    go_wp2_with fail
    refine (resolve_alias k t w h1 h2).mono ?_
    rintro e w' ⟨rfl, rfl⟩
    go_wp2
    go_ret
    exact ⟨rfl, rfl⟩

/-- A step at block s: parent p, name, index -1. -/
def StepAt (w : World) (s : Nat) (p : Option Addr) (name : ByteArray) : Prop := w.heap[s]? = some (.cells #[.pointer p, .string name, .int .i64 (-1)] 42 (0, 0))
theorem StepAt.lt {w : World} {s : Nat} {p : Option Addr} {name : ByteArray} (h : StepAt w s p name) : s < w.heap.size := (Array.getElem?_eq_some_iff.1 h).1
theorem StepAt.below {w w' : World} {s : Nat} {p : Option Addr} {name : ByteArray} (h : StepAt w s p name) (hb : Below w.heap.size w w') : StepAt w' s p name :=
  (hb.block s h.lt).trans h
theorem StepAt.c0 {w : World} {s : Nat} {p : Option Addr} {name : ByteArray} (h : StepAt w s p name) : w.cell? ⟨s, 0, none⟩ = some (.pointer p) := by
  unfold StepAt at h; simp [World.cell?, h]
theorem StepAt.c1 {w : World} {s : Nat} {p : Option Addr} {name : ByteArray} (h : StepAt w s p name) : w.cell? ⟨s, 1, none⟩ = some (.string name) := by
  unfold StepAt at h; simp [World.cell?, h]
theorem StepAt.c2 {w : World} {s : Nat} {p : Option Addr} {name : ByteArray} (h : StepAt w s p name) : w.cell? ⟨s, 2, none⟩ = some (.int .i64 (-1)) := by
  unfold StepAt at h; simp [World.cell?, h]
theorem StepAt.set2 {w : World} {s B : Nat} {p : Option Addr} {name : ByteArray} (h : StepAt w s p name) (hne : B ≠ s) (v1 v2 : Value) : StepAt ((w.setCell ⟨B, 0, none⟩ v1).setCell ⟨B, 1, none⟩ v2) s p name := by
  unfold StepAt
  rw [Below.heap_setCell _ _ _ _ (Ne.symm hne), Below.heap_setCell _ _ _ _ (Ne.symm hne)]
  exact h

theorem pathMember_any (p : Option Addr) (name : ByteArray) (w : World) :
    Calls Try.prog 12 #[.agg #[.pointer p], .string name] w fun e w' =>
      ∃ s, w.heap.size ≤ s ∧ e = .returned (.agg #[.pointer (some ⟨s, 0, none⟩)]) ∧ Below w.heap.size w w' ∧ StepAt w' s p name := by
  go_enter Try.func12, Try.ntmps12
  go_wp2
  refine bodyPost_ret (v := .agg #[.pointer (some ⟨w.heap.size + 1 + 1, 0, none⟩)]) (by simp [results, Try.results12, go_sem]) rfl ?_
  exact ⟨w.heap.size + 1 + 1, by omega, rfl, (((Below.refl _ _).alloc (Nat.le_refl _) _).alloc (by simp) _).alloc (by simp; omega) _, by
    have h := Deep.blk_alloc_new ((w.alloc (Obj.cells #[.pointer p] 27)).alloc (Obj.cells #[.pointer (some ⟨w.heap.size + 1 + 1, 0, none⟩)] 27)) (Obj.cells #[.pointer p, .string name, .int .i64 (-1)] 42)
    simpa [StepAt] using h⟩

theorem scalarKey_any (text : ByteArray) (w : World) :
    Calls Try.prog 6 #[.string text] w fun e w' =>
      ∃ k, w.heap.size ≤ k ∧ e = .returned (.pointer (some ⟨k, 0, none⟩)) ∧ Below w.heap.size w w' ∧ KeyOf w' k text := by
  go_enter Try.func6, Try.ntmps6
  go_wp2
  go_ret
  exact ⟨w.heap.size, Nat.le_refl _, rfl, (Below.refl _ _).alloc (Nat.le_refl _) _, .inl ⟨⟨#[115, 99, 97, 108, 97, 114]⟩, by simp [go_sem], by simp [go_sem], by simp [go_sem]⟩⟩

theorem isRoot_any (s : Nat) (w : World) :
    Calls Try.prog 7 #[.agg #[.pointer (some ⟨s, 0, none⟩)]] w fun e w' => e = .returned (.bool false) ∧ Below w.heap.size w w' := by
  go_enter Try.func7, Try.ntmps7
  go_wp2
  go_ret
  exact ⟨rfl, (Below.refl _ _).alloc (Nat.le_refl _) _⟩

theorem pathName_any (s : Nat) (name : ByteArray) (w : World) (h : w.cell? ⟨s, 1, none⟩ = some (.string name)) :
    Calls Try.prog 8 #[.agg #[.pointer (some ⟨s, 0, none⟩)]] w fun e w' => e = .returned (.string name) ∧ Below w.heap.size w w' := by
  have hs : s < w.heap.size := World.block_lt_of_cell? w _ h
  go_enter Try.func8, Try.ntmps8
  go_wp2
  go_ret
  exact ⟨rfl, (Below.refl _ _).alloc (Nat.le_refl _) _⟩

theorem pathIndex_any (s : Nat) (i : Int) (w : World) (h : w.cell? ⟨s, 2, none⟩ = some (.int .i64 i)) :
    Calls Try.prog 9 #[.agg #[.pointer (some ⟨s, 0, none⟩)]] w fun e w' => e = .returned (.int .i64 i) ∧ Below w.heap.size w w' := by
  have hs : s < w.heap.size := World.block_lt_of_cell? w _ h
  go_enter Try.func9, Try.ntmps9
  go_wp2
  go_ret
  exact ⟨rfl, (Below.refl _ _).alloc (Nat.le_refl _) _⟩

theorem pathParent_any (s : Nat) (p : Option Addr) (w : World) (h : w.cell? ⟨s, 0, none⟩ = some (.pointer p)) :
    Calls Try.prog 10 #[.agg #[.pointer (some ⟨s, 0, none⟩)]] w fun e w' => e = .returned (.agg #[.pointer p]) ∧ Below w.heap.size w w' := by
  have hs : s < w.heap.size := World.block_lt_of_cell? w _ h
  go_enter Try.func10, Try.ntmps10
  go_wp2
  refine bodyPost_ret (v := .agg #[.pointer p]) (by simp [results, Try.results10, go_sem]) rfl ?_
  exact ⟨rfl, ((Below.refl _ _).alloc (Nat.le_refl _) _).alloc (by simp) _⟩

set_option maxHeartbeats 800000 in
theorem nodeMember_any (n0 p : Option Addr) (k : Nat) (v : Option Addr) (text : ByteArray) (w : World) (h : KeyOf w k text) :
    Calls Try.prog 11 #[.agg #[.pointer n0, .pointer p], .pointer (some ⟨k, 0, none⟩), .pointer v] w fun e w' =>
      ∃ s, w.heap.size ≤ s ∧ e = .returned (.agg #[.pointer v, .pointer (some ⟨s, 0, none⟩)]) ∧ Below w.heap.size w w' ∧ StepAt w' s p text := by
  have H : Hid (∀ w', Below w.heap.size w w' → KeyOf w' k text) := fun w' hb => h.below hb
  clear h
  have hb29 : ∀ (s : Nat) (w : World), (Instr.build 29 #[(0, .pointer v), (1, .agg #[.pointer (some ⟨s, 0, none⟩)])]).run Try.prog w = .ok (.agg #[.pointer v, .pointer (some ⟨s, 0, none⟩)]) w := fun s w => run_build w 29 _ _ (by kernel_rfl)
  obtain ⟨W, hW⟩ : ∃ W, W = ((w.alloc (Obj.cells #[.pointer n0, .pointer p] 29)).alloc (Obj.cells #[.pointer none, .pointer none] 29)) := ⟨_, rfl⟩
  have hWb : Below w.heap.size w W := by subst hW; exact ((Below.refl _ _).alloc (Nat.le_refl _) _).alloc (by simp) _
  have hWs : W.heap.size = w.heap.size + 2 := by subst hW; simp
  have hWp : W.cell? ⟨w.heap.size, 1, none⟩ = some (.pointer p) := by subst hW; simp [go_sem]
  have h0 : W.cell? ⟨w.heap.size + 1, 0, none⟩ = some (.pointer none) := by subst hW; simp [go_sem]
  have h1 : W.cell? ⟨w.heap.size + 1, 1, none⟩ = some (.pointer none) := by subst hW; simp [go_sem]
  have f0 : W.frozen? ⟨w.heap.size + 1, 0, none⟩ = false := by subst hW; simp [go_sem]
  have f1 : W.frozen? ⟨w.heap.size + 1, 1, none⟩ = false := by subst hW; simp [go_sem]
  have hK : KeyOf W.drew k text := H.out _ hWb.drew
  go_enter Try.func11, Try.ntmps11
  go_wp2
  rw [← hW]
  clear hW
  go_region_with (first | (go_at_call 13; refine (memberName_any k text _ hK).mono ?_; rintro e w' ⟨rfl, rfl⟩) | (go_at_call 12; refine (pathMember_any p text _).mono ?_; rintro e w' ⟨s, hs, rfl, hbel, hst⟩; have q0 : w'.cell? ⟨w.heap.size + 1, 0, none⟩ = some (.pointer none) := cell_below hbel h0; have q1 : w'.cell? ⟨w.heap.size + 1, 1, none⟩ = some (.pointer none) := cell_below hbel h1; have z0 : w'.frozen? ⟨w.heap.size + 1, 0, none⟩ = false := (hbel.frozen (p := ⟨w.heap.size + 1, 0, none⟩) (by show w.heap.size + 1 < W.heap.size; omega)).trans f0; have z1 : w'.frozen? ⟨w.heap.size + 1, 1, none⟩ = false := (hbel.frozen (p := ⟨w.heap.size + 1, 1, none⟩) (by show w.heap.size + 1 < W.heap.size; omega)).trans f1))
  all_goals go_wp2
  all_goals
    refine bodyPost_ret (v := .agg #[.pointer v, .pointer (some ⟨s, 0, none⟩)]) (by simp [results, Try.results11, go_sem, q0, q1]) rfl ?_
    have hs' : W.heap.size ≤ s := hs
    have hbel' : Below W.heap.size W w' := (Below.refl W.heap.size W).drew.trans hbel
    have hB : Below w.heap.size w w' := hWb.trans (hbel'.mono hWb.size)
    refine ⟨s, by omega, rfl, (hB.setCell (by simp) _).setCell (by simp) _, ?_⟩
    exact hst.set2 (by omega) _ _

set_option maxHeartbeats 800000 in
theorem ZZNodeMember_any (n0 p : Option Addr) (k : Nat) (v : Option Addr) (text : ByteArray) (w : World) (h : KeyOf w k text) :
    Calls Try.prog 5 #[.agg #[.pointer n0, .pointer p], .pointer (some ⟨k, 0, none⟩), .pointer v] w fun e w' =>
      ∃ s, w.heap.size ≤ s ∧ e = .returned (.agg #[.pointer v, .pointer (some ⟨s, 0, none⟩)]) ∧ Below w.heap.size w w' ∧ StepAt w' s p text := by
  have H : Hid (∀ w', Below w.heap.size w w' → KeyOf w' k text) := fun w' hb => h.below hb
  clear h
  obtain ⟨W, hW⟩ : ∃ W, W = ((w.alloc (Obj.cells #[.pointer n0, .pointer p] 29)).alloc (Obj.cells #[.pointer none, .pointer none] 29)) := ⟨_, rfl⟩
  have hWb : Below w.heap.size w W := by subst hW; exact ((Below.refl _ _).alloc (Nat.le_refl _) _).alloc (by simp) _
  have hWs : W.heap.size = w.heap.size + 2 := by subst hW; simp
  have h0 : W.cell? ⟨w.heap.size + 1, 0, none⟩ = some (.pointer none) := by subst hW; simp [go_sem]
  have h1 : W.cell? ⟨w.heap.size + 1, 1, none⟩ = some (.pointer none) := by subst hW; simp [go_sem]
  have f0 : W.frozen? ⟨w.heap.size + 1, 0, none⟩ = false := by subst hW; simp [go_sem]
  have f1 : W.frozen? ⟨w.heap.size + 1, 1, none⟩ = false := by subst hW; simp [go_sem]
  go_enter Try.func5, Try.ntmps5
  go_wp2_with fail
  rw [← hW]
  clear hW
  refine (nodeMember_any n0 p k v text W (H.out W hWb)).mono ?_
  rintro e w' ⟨s, hs, rfl, hbel, hst⟩
  have q0 : w'.cell? ⟨w.heap.size + 1, 0, none⟩ = some (.pointer none) := cell_below hbel h0
  have q1 : w'.cell? ⟨w.heap.size + 1, 1, none⟩ = some (.pointer none) := cell_below hbel h1
  have z0 : w'.frozen? ⟨w.heap.size + 1, 0, none⟩ = false := (hbel.frozen (p := ⟨w.heap.size + 1, 0, none⟩) (by show w.heap.size + 1 < W.heap.size; omega)).trans f0
  have z1 : w'.frozen? ⟨w.heap.size + 1, 1, none⟩ = false := (hbel.frozen (p := ⟨w.heap.size + 1, 1, none⟩) (by show w.heap.size + 1 < W.heap.size; omega)).trans f1
  go_wp2
  refine bodyPost_ret (v := .agg #[.pointer v, .pointer (some ⟨s, 0, none⟩)]) (by simp [results, Try.results5, go_sem, q0, q1]) rfl ?_
  have hB : Below w.heap.size w w' := hWb.trans (hbel.mono hWb.size)
  refine ⟨s, by omega, rfl, (hB.setCell (by simp) _).setCell (by simp) _, ?_⟩
  exact hst.set2 (by omega) _ _
end Go.Proofs.Qxb6613126a
