import Derived.Test.Qxb6613147aMap
import Derived.WalkSpells
namespace Go.Proofs.Qxb6613147a
open Go.RowKit
set_option linter.unusedVariables false
theorem put_cell (w : World) (r : Nat) (o : Obj) (a : Addr) (h : a.block ≠ r) : (put w r o).cell? a = w.cell? a := by
  simp [World.cell?, put_other w r a.block o h]

theorem endA (w W w17 : World) (key : ByteArray) (fin : Bool) (ends : Int) (hWs : W.heap.size = w.heap.size + 2) (hWb : Below w.heap.size w W) (k17 : Below W.heap.size W w17)
    (hWc : W.cell? ⟨w.heap.size + 1, 2, none⟩ = some (.map (some w.heap.size))) (hWm : W.heap[w.heap.size]? = some (.map #[] 0)) :
    let w' := put ((w17.alloc (.chan 0 #[] false 0 0 false)).alloc (.cells (recCells key fin ends w17.heap.size) 45)) w.heap.size (.map #[⟨.string key, .pointer (some ⟨w17.heap.size + 1, 0, none⟩), 0⟩] 1)
    Below w.heap.size w w' ∧ Full w' (w.heap.size + 1) w.heap.size (w17.heap.size + 1) w17.heap.size key fin ends := by
  intro w'
  have hs := k17.size
  have hb : Below w17.heap.size w17 ((w17.alloc (.chan 0 #[] false 0 0 false)).alloc (.cells (recCells key fin ends w17.heap.size) 45)) := ((Below.refl _ _).alloc (Nat.le_refl _) _).alloc (by simp) _
  have hb0 : Below w.heap.size w w17 := hWb.trans (k17.mono (by omega))
  refine ⟨put_below (hb0.trans (hb.mono (by omega))) _ (Nat.le_refl _) _, ?_, ?_, ?_, ?_⟩
  · rw [put_cell _ _ _ _ (by simp)]
    exact cell_below hb (cell_below k17 hWc)
  · exact put_same _ _ _ _ (heap_below hb (heap_below k17 hWm))
  · rw [put_other _ _ _ _ (by omega)]
    have := Deep.blk_alloc_new (w17.alloc (.chan 0 #[] false 0 0 false)) (.cells (recCells key fin ends w17.heap.size) 45)
    simpa using this
  · rw [put_other _ _ _ _ (by omega), Below.heap_alloc _ _ _ (by simp)]
    exact Deep.blk_alloc_new _ _

theorem endB (w W w17 : World) (key : ByteArray) (fin : Bool) (ends : Int) (hWs : W.heap.size = w.heap.size + 2) (hWb : Below w.heap.size w W) (k17 : Below W.heap.size W w17)
    (hWc : W.cell? ⟨w.heap.size + 1, 2, none⟩ = some (.map (some w.heap.size))) (hWm : W.heap[w.heap.size]? = some (.map #[] 0)) (hc : w17.heap[w.heap.size + 2]? = some (.chan 0 #[] false 0 0 false)) :
    let w' := put (w17.alloc (.cells (recCells key fin ends (w.heap.size + 2)) 45)) w.heap.size (.map #[⟨.string key, .pointer (some ⟨w17.heap.size, 0, none⟩), 0⟩] 1)
    Below w.heap.size w w' ∧ Full w' (w.heap.size + 1) w.heap.size w17.heap.size (w.heap.size + 2) key fin ends := by
  intro w'
  have hs := k17.size
  have hb : Below w17.heap.size w17 (w17.alloc (.cells (recCells key fin ends (w.heap.size + 2)) 45)) := (Below.refl _ _).alloc (Nat.le_refl _) _
  have hb0 : Below w.heap.size w w17 := hWb.trans (k17.mono (by omega))
  refine ⟨put_below (hb0.trans (hb.mono (by omega))) _ (Nat.le_refl _) _, ?_, ?_, ?_, ?_⟩
  · rw [put_cell _ _ _ _ (by simp)]
    exact cell_below hb (cell_below k17 hWc)
  · exact put_same _ _ _ _ (heap_below hb (heap_below k17 hWm))
  · rw [put_other _ _ _ _ (by omega)]
    exact Deep.blk_alloc_new _ _
  · rw [put_other _ _ _ _ (by omega)]
    exact heap_below hb hc

set_option maxRecDepth 100000 in
set_option maxHeartbeats 1600000 in
theorem storeWith_any (key : ByteArray) (fin : Bool) (ends : Int) (w : World) (h0 : -9223372036854775808 ≤ ends) (h1 : ends ≤ 9223372036854775807) :
    Calls Try.prog 7 #[.string key, .bool fin, .int .i64 ends] w fun e w' =>
      ∃ sb mb rb cb, w.heap.size ≤ mb ∧ w.heap.size ≤ cb ∧ e = .returned (.pointer (some ⟨sb, 0, none⟩)) ∧ Below w.heap.size w w' ∧ Full w' sb mb rb cb key fin ends := by
  have hb45 : ∀ (N S : Int) (c : Nat) (w : World), (Instr.build 45 #[(0, .string key), (2, .bool fin), (6, .agg #[.int .u64 N, .int .i64 S, .pointer none]), (7, .chan (some c))]).run Try.prog w = .ok (.agg #[.string key, .slice none 0 0, .bool fin, .slice none 0 0, .int .u64 0, .int .i64 0, .pointer none, .string ⟨#[]⟩, .int .u64 N, .int .i64 S, .pointer none, .chan (some c)]) w := fun N S c w => run_build w 45 _ _ (by kernel_rfl)
  have hmk := run_mkchan
  obtain ⟨W, hW⟩ : ∃ W, W = (w.alloc (.map #[] 0)).alloc (.cells #[.int .i32 0, .int .u32 0, .map (some w.heap.size), .slice none 0 0] 57) := ⟨_, rfl⟩
  have hWb : Below w.heap.size w W := by subst hW; exact ((Below.refl _ _).alloc (Nat.le_refl _) _).alloc (by simp) _
  have hWs : W.heap.size = w.heap.size + 2 := by subst hW; simp
  have hWc : W.cell? ⟨w.heap.size + 1, 2, none⟩ = some (.map (some w.heap.size)) := by subst hW; simp [go_sem]
  have hWm : W.heap[w.heap.size]? = some (.map #[] 0) := by
    subst hW
    rw [Below.heap_alloc _ _ _ (by simp)]
    exact Deep.blk_alloc_new _ _
  have HWm : Hid (W.heap[w.heap.size]? = some (.map #[] 0)) := hWm
  have hls : w.heap.size + 1 < W.heap.size := by omega
  have HAT : Hid (∀ w, Calls Try.prog 17 #[.int .i64 ends] w fun e w' => e = .returned (.agg #[.int .u64 (tN ends : Int), .int .i64 (tS ends), .pointer none]) ∧ Below w.heap.size w w') := fun w => at_any ends w h0 h1
  clear h0 h1 hWm
  go_enter Try.func7, Try.ntmps7
  go_wp2_with fail
  refine (newStore_any w).mono ?_
  rintro e w' ⟨rfl, hw'⟩
  rw [hw', ← hW]
  clear hw' hW
  go_wp2
  go_region_with (go_at_call 17; (refine (HAT.out _).mono ?_; rintro e w17 ⟨rfl, hb17⟩; have k17 : Below W.heap.size W w17 := Below.trans (by repeat (first | exact Below.refl _ _ | refine Below.drew ?_ | refine Below.alloc ?_ (by simp) _)) (hb17.mono (by simp)); have c17 : w17.cell? ⟨w.heap.size + 1, 2, none⟩ = some (.map (some w.heap.size)) := cell_below k17 hWc; have hl17 : w.heap.size + 1 < w17.heap.size := (by have := k17.size; omega); have c17b : ∀ o o2 : Obj, ((w17.alloc o).alloc o2).cell? ⟨w.heap.size + 1, 2, none⟩ = some (.map (some w.heap.size)) := fun o o2 => (((Below.refl w17.heap.size w17).alloc (Nat.le_refl _) o).alloc (by simp) o2).cell hl17 |>.trans c17; have hu1 := fun (o : Obj) (v : Value) => run_update_empty (w17.alloc o) w.heap.size key v 0 (by rw [Below.heap_alloc _ _ _ (by omega)]; exact heap_below k17 HWm.out); have hu2 := fun (o o2 : Obj) (v : Value) => run_update_empty ((w17.alloc o).alloc o2) w.heap.size key v 0 (by rw [Below.heap_alloc _ _ _ (by simp; omega), Below.heap_alloc _ _ _ (by omega)]; exact heap_below k17 HWm.out)))
  all_goals (go_wp2; go_ret)
  all_goals clear HAT hb45 hmk
  all_goals first
    | exact ⟨w.heap.size + 1, w.heap.size, w17.heap.size + 1, w17.heap.size, Nat.le_refl _, by omega, rfl, endA w W w17 key fin ends hWs hWb k17 hWc HWm.out⟩
    | exact ⟨w.heap.size + 1, w.heap.size, w17.heap.size, w.heap.size + 2, Nat.le_refl _, by omega, rfl, endB w W w17 key fin ends hWs hWb k17 hWc HWm.out (heap_below hb17 (by rw [← hWs]; exact Deep.blk_alloc_new W _))⟩
end Go.Proofs.Qxb6613147a
