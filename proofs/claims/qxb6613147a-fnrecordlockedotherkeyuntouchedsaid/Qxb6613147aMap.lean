import Derived.Test.Qxb6613147aTime
import Derived.MapKept
import Derived.Conc.SmallLaws
import Derived.Deep.RegionWith
import Derived.Deep.OwnRows
namespace Go.Proofs.Qxb6613147a
open Go.RowKit
open Go.MapKept (IsKey run_checkKey run_findKey)
set_option linter.unusedVariables false

/-- block r holds o now -/
def put (w : World) (r : Nat) (o : Obj) : World := { w with heap := w.heap.setIfInBounds r o }
theorem put_same (w : World) (r : Nat) (o o' : Obj) (h : w.heap[r]? = some o') : (put w r o).heap[r]? = some o := by
  have hr : r < w.heap.size := (Array.getElem?_eq_some_iff.1 h).1
  simp [put, hr]
theorem put_other (w : World) (r k : Nat) (o : Obj) (h : k ≠ r) : (put w r o).heap[k]? = w.heap[k]? := by
  simp [put, Ne.symm h]
theorem put_size (w : World) (r : Nat) (o : Obj) : (put w r o).heap.size = w.heap.size := by simp [put]
theorem put_below {B : Nat} {x w : World} (h : Below B x w) (r : Nat) (hr : B ≤ r) (o : Obj) : Below B x (put w r o) :=
  h.trans ⟨rfl, rfl, rfl, by simp [put], fun k hk => put_other w r k o (by omega)⟩

theorem get_map {P : Program} {w : World} {r : Nat} {es : Array MapEntry} {ct : Nat} (h : w.heap[r]? = some (.map es ct)) : (getObj r).run P w = .ok (.map es ct) w := by simp [getObj, Sem.run, h]
theorem set_map {P : Program} {w : World} {r : Nat} {es : Array MapEntry} {ct : Nat} (o : Obj) (h : w.heap[r]? = some (.map es ct)) : (setObj r o).run P w = .ok () (put w r o) := by simp [setObj, Sem.run, h, put]
theorem ck (e : Bool) (key : ByteArray) (w : World) : (Instr.checkKey e 10000 9 (.string key)).run Try.prog w = .ok () w := run_checkKey (P := Try.prog) (kt := 9) Try.underlying9 (by simp [IsKey]) e 9999
theorem find_none (key : ByteArray) (w : World) : (Instr.findKey 9 (.string key) []).run Try.prog w = .ok none w := run_findKey Try.underlying9 rfl
theorem find_hit (key : ByteArray) (v : Value) (b : Nat) (w : World) : (Instr.findKey 9 (.string key) [⟨.string key, v, b⟩]).run Try.prog w = .ok (some (0, v)) w := run_findKey Try.underlying9 (by
  have h : (key == key) = true := by rw [beq_toListBytes]; simp
  simp only [Instr.findNow, Instr.sameNow, h])
theorem find_miss (k key : ByteArray) (hne : k ≠ key) (v : Value) (b : Nat) (w : World) : (Instr.findKey 9 (.string k) [⟨.string key, v, b⟩]).run Try.prog w = .ok none w := run_findKey Try.underlying9 (by
  have h : (k == key) = false := by
    rw [beq_toListBytes, beq_eq_false_iff_ne]
    intro h
    rw [ByteArray.toList_eq, ByteArray.toList_eq] at h
    exact hne (ByteArray.ext (Array.toList_inj.1 h))
  simp only [Instr.findNow, Instr.sameNow, h])

theorem run_update_empty (w : World) (mb : Nat) (key : ByteArray) (v : Value) (ct : Nat) (h : w.heap[mb]? = some (.map #[] ct)) :
    (Instr.mapUpdate 53 (.map (some mb)) (.string key) v).run Try.prog w = .ok () (put w mb (.map #[⟨.string key, v, ct⟩] (ct + 1))) := by
  simp [Instr.mapUpdate, run_underlying Try.underlying53, get_map h, ck, find_none, set_map _ h, Result.andThen]
theorem run_lookup_hit (w : World) (mb : Nat) (key : ByteArray) (v : Value) (b ct : Nat) (h : w.heap[mb]? = some (.map #[⟨.string key, v, b⟩] ct)) :
    (Instr.lookup 53 (.map (some mb)) (.string key) false).run Try.prog w = .ok v w := by
  simp [Instr.lookup, run_underlying Try.underlying53, get_map h, ck, find_hit, Result.andThen]
theorem zero25 (w : World) : (zeroValue 25).run Try.prog w = .ok (.pointer none) w := by kernel_rfl
theorem run_lookup_miss (w : World) (mb : Nat) (k key : ByteArray) (hne : k ≠ key) (v : Value) (b ct : Nat) (h : w.heap[mb]? = some (.map #[⟨.string key, v, b⟩] ct)) :
    (Instr.lookup 53 (.map (some mb)) (.string k) false).run Try.prog w = .ok (.pointer none) w := by
  simp [Instr.lookup, run_underlying Try.underlying53, get_map h, ck, find_miss k key hne, Result.andThen]
theorem run_lookup_empty (w : World) (mb : Nat) (k : ByteArray) (ct : Nat) (h : w.heap[mb]? = some (.map #[] ct)) :
    (Instr.lookup 53 (.map (some mb)) (.string k) false).run Try.prog w = .ok (.pointer none) w := by
  simp [Instr.lookup, run_underlying Try.underlying53, get_map h, ck, find_none, Result.andThen]
theorem run_delete_hit (w : World) (mb : Nat) (key : ByteArray) (v : Value) (b ct : Nat) (ty : TypeId) (h : w.heap[mb]? = some (.map #[⟨.string key, v, b⟩] ct)) :
    (Builtin.delete_ #[53, 9] ty #[.map (some mb), .string key]).run Try.prog w = .ok (.tuple #[]) (put w mb (.map #[] ct)) := by
  simp [Builtin.delete_, run_underlying Try.underlying53, get_map h, ck, find_hit, set_map _ h, Result.andThen]
theorem run_len_map (w : World) (mb : Nat) (es : Array MapEntry) (ct : Nat) (ty : TypeId) (h : w.heap[mb]? = some (.map es ct)) :
    (Builtin.len_ #[53] ty #[.map (some mb)]).run Try.prog w = .ok (.int .i64 es.size) w := by
  simp [Builtin.len_, run_underlying Try.underlying53, get_map h, Result.andThen, goInt]
theorem run_close (w : World) (cb : Nat) (ats : Array TypeId) (ty : TypeId) (h : w.heap[cb]? = some (.chan 0 #[] false 0 0 false)) :
    (Builtin.close_ ats ty #[.chan (some cb)]).run Try.prog w = .ok (.tuple #[]) (put w cb (.chan 0 #[] true 0 0 false)) := by
  have h' := run_close_open (P := Try.prog) ats ty h
  exact h'
theorem run_mkchan (w : World) : (Instr.makeChan 42 (.int .i64 0)).run Try.prog w = .ok (.chan (some w.heap.size)) (w.alloc (.chan 0 #[] false 0 0 false)) := by
  have hs : (Try.prog.info? 46).map (·.bytes) = some 0 := by kernel_rfl
  obtain ⟨i, hi, hb⟩ := Option.map_eq_some_iff.1 hs
  simp [Instr.makeChan, asInt, asIntOf, run_underlying Try.underlying42, typeInfo, hi, IntKind.max, IntKind.bits, IntKind.signed]

theorem newStore_any (w : World) : Calls Try.prog 16 #[] w fun e w' => e = .returned (.pointer (some ⟨w.heap.size + 1, 0, none⟩)) ∧
    w' = (w.alloc (.map #[] 0)).alloc (.cells #[.int .i32 0, .int .u32 0, .map (some w.heap.size), .slice none 0 0] 57) := by
  have hmm := @run_makeMap Try.prog
  go_enter Try.func16, Try.ntmps16
  go_wp2
  go_ret
  exact ⟨rfl, rfl⟩

/-- the cells of a record -/
def recCells (key : ByteArray) (fin : Bool) (ends : Int) (cb : Nat) : Array Value := #[.string key, .slice none 0 0, .bool fin, .slice none 0 0, .int .u64 0, .int .i64 0, .pointer none, .string ⟨#[]⟩, .int .u64 (tN ends : Int), .int .i64 (tS ends), .pointer none, .chan (some cb)]
/-- The store at sb holds, by its map at mb, the record at rb under key; its channel cb is open. -/
def Full (w : World) (sb mb rb cb : Nat) (key : ByteArray) (fin : Bool) (ends : Int) : Prop :=
  w.cell? ⟨sb, 2, none⟩ = some (.map (some mb)) ∧ w.heap[mb]? = some (.map #[⟨.string key, .pointer (some ⟨rb, 0, none⟩), 0⟩] 1) ∧ w.heap[rb]? = some (.cells (recCells key fin ends cb) 45 (0, 0)) ∧ w.heap[cb]? = some (.chan 0 #[] false 0 0 false)
/-- The store at sb holds nothing. -/
def Empt (w : World) (sb mb : Nat) : Prop := w.cell? ⟨sb, 2, none⟩ = some (.map (some mb)) ∧ w.heap[mb]? = some (.map #[] 1)
theorem heap_below {w w' : World} (hb : Below w.heap.size w w') {k : Nat} {o : Obj} (h : w.heap[k]? = some o) : w'.heap[k]? = some o := (hb.block k (Array.getElem?_eq_some_iff.1 h).1).trans h
theorem cell_below {w w' : World} (hb : Below w.heap.size w w') {a : Addr} {v : Value} (h : w.cell? a = some v) : w'.cell? a = some v := by
  rw [hb.cell (World.block_lt_of_cell? w _ h)]; exact h
theorem Full.below {w w' : World} {sb mb rb cb : Nat} {key : ByteArray} {fin : Bool} {ends : Int} (h : Full w sb mb rb cb key fin ends) (hb : Below w.heap.size w w') : Full w' sb mb rb cb key fin ends :=
  ⟨cell_below hb h.1, heap_below hb h.2.1, heap_below hb h.2.2.1, heap_below hb h.2.2.2⟩
theorem Empt.below {w w' : World} {sb mb : Nat} (h : Empt w sb mb) (hb : Below w.heap.size w w') : Empt w' sb mb := ⟨cell_below hb h.1, heap_below hb h.2⟩
theorem Full.cell {w : World} {sb mb rb cb : Nat} {key : ByteArray} {fin : Bool} {ends : Int} (h : Full w sb mb rb cb key fin ends) (o : Nat) (ho : o < 12) : w.cell? ⟨rb, o, none⟩ = (recCells key fin ends cb)[o]? := by
  simp [World.cell?, h.2.2.1]

end Go.Proofs.Qxb6613147a
