import Derived.Test.Qxb6613126aSmall
import Derived.LaidEqlPtr
import Derived.SliceStrings
import Derived.Deep.DeepCutAuto
namespace Go.Proofs.Qxb6613126a
open Go.RowKit
set_option linter.unusedVariables false

/-! ### equality of paths and of node pointers -/
theorem eq25_same (p : Option Addr) (d : Nat) (w : World) : (Op.equalIn (d + 1) 25 (.pointer p) (.pointer p)).run Try.prog w = .ok true w := by
  obtain ⟨j, hj⟩ : ∃ j, Try.prog.info? 42 = some j := ⟨_, rfl⟩
  cases p with
  | none => simp [Op.equalIn, run_underlying Try.underlying25]
  | some a => simp [Op.equalIn, run_underlying Try.underlying25, sizeOf, typeInfo, hj, run_sameAddr_same]
theorem eq25_other (a b : Addr) (d : Nat) (w : World) {ca cb : Array Value} {ta tb : TypeId} (hne : a ≠ b) (ha : w.heap[a.block]? = some (.cells ca ta (0, 0))) (hb : w.heap[b.block]? = some (.cells cb tb (0, 0))) :
    (Op.equalIn (d + 1) 25 (.pointer (some a)) (.pointer (some b))).run Try.prog w = .ok false w := by
  have hi : (Try.prog.info? 42).map (·.size) = some 3 := by kernel_rfl
  obtain ⟨j, hj, hs⟩ := Option.map_eq_some_iff.1 hi
  simp [Op.equalIn, run_underlying Try.underlying25, sizeOf, typeInfo, hj, hs, run_sameAddr_other w hne ha hb]

theorem eqPath_same (p : Option Addr) (w : World) : (binOp .eql 27 (.agg #[.pointer p]) (.agg #[.pointer p])).run Try.prog w = .ok (.bool true) w := by
  have hS : Try.prog.underlying 27 = some (.struct (Try.prog.fieldsOf 27)) := by kernel_rfl
  have hp : Try.prog.stoodInHeld 27 = false := by kernel_rfl
  have u25 := Try.underlying25
  have h := run_equalIn_agg w 9999 27 #[.pointer p] #[.pointer p] hS hp
  have he : (Op.equalIn 10000 27 (.agg #[.pointer p]) (.agg #[.pointer p])).run Try.prog w = .ok true w := by
    rw [show (10000 : Nat) = 9999 + 1 from rfl, h]
    simp only [Program.fieldsOf, Try.underlying27]
    have hq := eq25_same p 9998 w
    go_simp
  simp only [binOp]
  simp [Op.equal, Op.maxDepth, he]

theorem neqPath_other (a b : Addr) (w : World) {ca cb : Array Value} {ta tb : TypeId} (hne : a ≠ b) (ha : w.heap[a.block]? = some (.cells ca ta (0, 0))) (hb : w.heap[b.block]? = some (.cells cb tb (0, 0))) :
    (binOp .neq 27 (.agg #[.pointer (some a)]) (.agg #[.pointer (some b)])).run Try.prog w = .ok (.bool true) w := by
  have hS : Try.prog.underlying 27 = some (.struct (Try.prog.fieldsOf 27)) := by kernel_rfl
  have hp : Try.prog.stoodInHeld 27 = false := by kernel_rfl
  have h := run_equalIn_agg w 9999 27 #[.pointer (some a)] #[.pointer (some b)] hS hp
  have he : (Op.equalIn 10000 27 (.agg #[.pointer (some a)]) (.agg #[.pointer (some b)])).run Try.prog w = .ok false w := by
    rw [show (10000 : Nat) = 9999 + 1 from rfl, h]
    simp only [Program.fieldsOf, Try.underlying27]
    have hq := eq25_other a b 9998 w hne ha hb
    go_simp
  simp only [binOp]
  simp [Op.equal, Op.maxDepth, he]

theorem neq24_same (a : Addr) (w : World) : (binOp .neq 24 (.pointer (some a)) (.pointer (some a))).run Try.prog w = .ok (.bool false) w := by
  obtain ⟨j, hj⟩ : ∃ j, Try.prog.info? 35 = some j := ⟨_, rfl⟩
  have h : ∀ d : Nat, (Op.equalIn (d + 1) 24 (.pointer (some a)) (.pointer (some a))).run Try.prog w = .ok true w := fun d => by
    simp [Op.equalIn, run_underlying Try.underlying24, sizeOf, typeInfo, hj, run_sameAddr_same]
  simp only [binOp]
  simp [Op.equal, Op.maxDepth, h 9999]

/-! ### the strings that came in -/
def IsStrs (w : World) (a : Option Addr) (len cap : Nat) (ss : List ByteArray) : Prop :=
  (a = none ∧ len = 0 ∧ cap = 0 ∧ ss = []) ∨
  ∃ x, a = some x ∧ len ≤ cap ∧ cap ≤ maxLen ∧ ss.length = cap ∧ (∀ i, i < ss.length → w.cell? (x.add i) = some (.string (ss.getD i ByteArray.empty))) ∧ ∀ s ∈ ss, s.size ≤ maxLen
/-- each string's cell, and that its size fits -/
def HeldS (w : World) (a : Option Addr) (n : Nat) (S : Nat → ByteArray) : Prop := ∀ j, j < n → ∃ b o, a = some ⟨b, o, none⟩ ∧ w.cell? ⟨b, o + j, none⟩ = some (.string (S j)) ∧ (S j).size ≤ 9223372036854775807
theorem IsStrs.held {w : World} {a : Option Addr} {len cap : Nat} {ss : List ByteArray} (h : IsStrs w a len cap ss) : HeldS w a len (fun j => ss.getD j ByteArray.empty) := by
  intro j hj
  rcases h with ⟨_, h, _, _⟩ | ⟨x, rfl, hl, hm, hz, hcell, hsz⟩
  · omega
  · have hc := hcell j (by omega)
    obtain ⟨b, o, spot⟩ := x
    have hspot : spot = none := by simpa [Addr.add] using World.cell?_spot (hcell 0 (by omega))
    subst hspot
    have ha : (⟨b, o, none⟩ : Addr).add j = ⟨b, o + j, none⟩ := by unfold Addr.add; split <;> simp_all
    rw [ha] at hc
    refine ⟨b, o, rfl, hc, ?_⟩
    have : (ss.getD j ByteArray.empty) ∈ ss := by
      have hj' : j < ss.length := by omega
      simp [hj']
    have := hsz _ this
    unfold maxLen at this
    exact this
theorem IsStrs.len {w : World} {a : Option Addr} {len cap : Nat} {ss : List ByteArray} (h : IsStrs w a len cap ss) : len ≤ maxLen := by
  rcases h with ⟨_, h, _, _⟩ | ⟨x, _, h2, h3, _⟩
  · omega
  · omega
theorem HeldS.below {w w' : World} {a : Option Addr} {n : Nat} {S : Nat → ByteArray} (h : HeldS w a n S) (hb : Below w.heap.size w w') : HeldS w' a n S := by
  intro j hj
  obtain ⟨b, o, h1, h2, h3⟩ := h j hj
  exact ⟨b, o, h1, cell_below hb h2, h3⟩

/-- what the bytes' function says -/
def BytesSaid (n : Nat) (kind text anchor : ByteArray) (S : Nat → ByteArray) (w : World) (e : Ending) (w' : World) : Prop :=
  ∃ b, e = .returned (.bool b) ∧ w = w' ∧ (b = true → n ≤ 1048576 ∧ kind.size ≤ 1048576 ∧ text.size ≤ 1048576 ∧ anchor.size ≤ 1048576 ∧ ∀ j, j < n → (S j).size ≤ 1048576)

set_option maxHeartbeats 800000 in
theorem bytes_any (a : Option Addr) (n c : Nat) (kind text anchor : ByteArray) (S : Nat → ByteArray) (w : World) (hn : n ≤ maxLen) (hk : kind.size ≤ maxLen) (ht : text.size ≤ maxLen) (ha : anchor.size ≤ maxLen) (hS : HeldS w a n S) :
    Calls Try.prog 4 #[.slice a n c, .string kind, .string text, .string anchor] w fun e w' => BytesSaid n kind text anchor S w e w' := by
  unfold maxLen at hn hk ht ha
  by_cases g1 : n ≤ 1048576
  · go_enter Try.func4, Try.ntmps4
    go_wp2
    go_loop [9, 10] (fun z i => ∃ k q : Nat, k ≤ n ∧ i = .int .i64 k ∧ z = .int .i64 q ∧ q ≤ 1048576 ∧ Hid (∀ j, j < k → (S j).size ≤ 1048576)) (fun _ i => n - (intOf i).toNat)
    case atStart => exact ⟨0, n, Nat.zero_le _, rfl, by go_num, g1, fun j hj => by omega⟩
    case round =>
      obtain ⟨k, q, hkn, rfl, rfl, hq, HS⟩ := hrel
      by_cases hlt : k < n
      · obtain ⟨b, o, rfl, hc, hsz⟩ := hS k hlt
        obtain ⟨s, hs⟩ : ∃ s, s = S k := ⟨_, rfl⟩
        have HE : Hid (s = S k) := hs
        rw [← hs] at hc hsz
        clear hs hS
        by_cases g2 : s.size ≤ 1048576
        · by_cases g3 : q + s.size ≤ 1048576
          · have HS2 : Hid (∀ j, j < k + 1 → (S j).size ≤ 1048576) := fun j hj => by
              by_cases e : j = k
              · subst e; rw [← HE.out]; exact g2
              · exact HS.out j (by omega)
            go_wp2
            go_round
            case rel => exact ⟨k + 1, q + s.size, by omega, by go_num, by go_num, g3, HS2⟩
            case measure => simp [intOf]; omega
          · go_wp2
            go_ret
            exact ⟨false, rfl, rfl, fun h => by cases h⟩
        · go_wp2
          go_ret
          exact ⟨false, rfl, rfl, fun h => by cases h⟩
      · clear hS
        have HS2 : Hid (∀ j, j < n → (S j).size ≤ 1048576) := fun j hj => HS.out j (by omega)
        go_wp2
        all_goals go_ret
        all_goals first | exact ⟨false, rfl, rfl, fun h => by cases h⟩ | exact ⟨true, rfl, rfl, fun _ => ⟨g1, by omega, by omega, by omega, HS2.out⟩⟩
  · go_enter Try.func4, Try.ntmps4
    go_wp2
    go_ret
    exact ⟨false, rfl, rfl, fun h => by cases h⟩
end Go.Proofs.Qxb6613126a
