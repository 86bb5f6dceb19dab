import Derived.Test.Qxb6612989aSplit
import Derived.Deep.DeepCutAuto
import Derived.Deep.QuietTactic
import Derived.BigQuiet
import Derived.WalkSmall
namespace Go.Proofs.Qxb6612989a
open Go.RowKit Go.Deep
set_option linter.unusedVariables false

/-- WHAT THE WALK IS TOLD OF A SLICE OF INTEGERS THAT CAME IN. -/
def IsRow (k : IntKind) (w : World) (a : Option Addr) (len cap : Nat) (zs : List Int) : Prop :=
  (a = none ∧ len = 0 ∧ cap = 0 ∧ zs = []) ∨
  ∃ x, a = some x ∧ len ≤ cap ∧ cap ≤ maxLen ∧ zs.length = cap ∧ (∀ i, i < zs.length → w.cell? (x.add i) = some (.int k (zs.getD i 0))) ∧ ∀ n ∈ zs, (Lit.int k n).wf = true
theorem IsRow.below {k : IntKind} {w w' : World} {a : Option Addr} {len cap : Nat} {zs : List Int} (h : IsRow k w a len cap zs) (hb : Below w.heap.size w w') : IsRow k w' a len cap zs := by
  rcases h with h | ⟨x, h1, h2, h3, h4, h5, h6⟩
  · exact .inl h
  · exact .inr ⟨x, h1, h2, h3, h4, fun i hi => by rw [hb.cell (World.block_lt_of_cell? w _ (h5 i hi))]; exact h5 i hi, h6⟩
theorem IsRow.len {k : IntKind} {w : World} {a : Option Addr} {len cap : Nat} {zs : List Int} (h : IsRow k w a len cap zs) : len ≤ maxLen := by
  rcases h with ⟨_, h, _, _⟩ | ⟨x, _, h2, h3, _⟩
  · omega
  · omega

/-- the grants as a list -/
def pairs (n : Nat) (T U : Nat → Int) : List (Int × Int) := (List.range n).map fun j => (T j, U j)
theorem pairs_length (n : Nat) (T U : Nat → Int) : (pairs n T U).length = n := by simp [pairs]
theorem pairs_getD (n : Nat) (T U : Nat → Int) (j : Nat) (h : j < n) : (pairs n T U).getD j (0, 0) = (T j, U j) := by simp [pairs, h]
theorem recAt_pairs {w : World} {r b n : Nat} {T U : Nat → Int} (h : RecAt w r b n (fun j => (T j, U j))) : RecAt w r b (pairs n T U).length (fun j => (pairs n T U).getD j (0, 0)) := by
  rw [pairs_length]
  exact ⟨h.1, h.2.1, h.2.2.congr (Kf_congr (fun j hj => (pairs_getD n T U j hj).symm))⟩

theorem live_live (a b m : Int) (hm : m = if a < b then b else a) (G : List (Int × Int)) : live b (live a G) = live m G := by
  unfold live
  rw [List.filter_filter]
  congr 1
  funext p
  subst hm
  by_cases h : a < b
  · simp only [h, if_true]
    by_cases h2 : b < p.2
    · have : a < p.2 := by omega
      simp [h2, this]
    · simp [h2]
  · simp only [h, if_false]
    by_cases h2 : a < p.2
    · have : b < p.2 := by omega
      simp [h2, this]
    · simp [h2]

theorem heldK_row {k : IntKind} {w : World} {b n : Nat} {t : TypeId} {Z : Nat → Int} (h : w.rowIs b t n (fun j => .int k (Z j))) : HeldK k w (some ⟨b, 0, none⟩) n Z :=
  fun j hj => ⟨b, rfl, h.lt, h.cell hj⟩

theorem ZZunexpired_at (r b : Nat) (G : List (Int × Int)) (now : Int) (w : World) (hn : G.length ≤ 65536) (hrec : RecAt w r b G.length (fun j => G.getD j (0, 0))) (L : List (Int × Int)) (m n : Nat) (hL : L = live now G) (hm : m = L.length) (hn' : n = G.length) :
    Calls Try.prog 7 #[.pointer (some ⟨r, 0, none⟩), .int .i64 now] w fun e w' =>
      ∃ b1 b2, w.heap.size ≤ b1 ∧ w.heap.size ≤ b2 ∧
        e = .returned (.tuple #[.slice (some ⟨b1, 0, none⟩) m m, .slice (some ⟨b2, 0, none⟩) m m, .bool (decide (m = 0)), .int .i64 ((n : Int) - (m : Int))]) ∧
        But w.heap.size b w w' ∧ w'.rowIs b1 25 m (fun j => .int .u64 (L.getD j (0, 0)).1) ∧ w'.rowIs b2 2 m (fun j => .int .i64 (L.getD j (0, 0)).2) ∧
        w'.rowIs b 38 (n * 5) (Kf (after now G)) := by
  subst hL; subst hm; subst hn'
  exact ZZunexpired_any r b G now w hn (World.block_lt_of_cell? w _ hrec.2.1) hrec
end Go.Proofs.Qxb6612989a
