import Derived.Test.Qxb6613147aMap
namespace Go.Proofs.Qxb6613147a
open Go.RowKit
set_option linter.unusedVariables false

theorem recordOf_any (w : World) (sb mb rb cb : Nat) (key : ByteArray) (fin : Bool) (ends : Int) (h : Full w sb mb rb cb key fin ends) :
    Calls Try.prog 8 #[.pointer (some ⟨sb, 0, none⟩), .string key] w fun e w' => e = .returned (.pointer (some ⟨rb, 0, none⟩)) ∧ w = w' := by
  have hc := h.1
  have hl := run_lookup_hit w mb key _ 0 1 h.2.1
  clear h
  go_enter Try.func8, Try.ntmps8
  go_wp2
  go_ret
  exact ⟨rfl, rfl⟩

theorem count_full (w : World) (sb mb rb cb : Nat) (key : ByteArray) (fin : Bool) (ends : Int) (h : Full w sb mb rb cb key fin ends) :
    Calls Try.prog 10 #[.pointer (some ⟨sb, 0, none⟩)] w fun e w' => e = .returned (.int .i64 1) ∧ w = w' := by
  have hc := h.1
  have hl := fun ty => run_len_map w mb _ 1 ty h.2.1
  clear h
  go_enter Try.func10, Try.ntmps10
  go_wp2
  go_ret
  exact ⟨rfl, rfl⟩

theorem count_empt (w : World) (sb mb : Nat) (h : Empt w sb mb) :
    Calls Try.prog 10 #[.pointer (some ⟨sb, 0, none⟩)] w fun e w' => e = .returned (.int .i64 0) ∧ w = w' := by
  have hc := h.1
  have hl := fun ty => run_len_map w mb _ 1 ty h.2
  clear h
  go_enter Try.func10, Try.ntmps10
  go_wp2
  go_ret
  exact ⟨rfl, rfl⟩

end Go.Proofs.Qxb6613147a
