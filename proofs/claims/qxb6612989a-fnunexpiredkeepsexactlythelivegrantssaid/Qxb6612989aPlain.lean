import Derived.Test.Qxb6612989aFacts
namespace Go.Proofs.Qxb6612989a
open Go.RowKit Go.Deep
set_option linter.unusedVariables false

/-! ### where the live grants stand among the grants -/
def liveIdx (now : Int) (n : Nat) (U : Nat → Int) : List Nat := (List.range n).filter fun i => decide (now < U i)
theorem live_pairs (now : Int) (n : Nat) (T U : Nat → Int) : live now (pairs n T U) = (liveIdx now n U).map fun i => (T i, U i) := by
  unfold live pairs liveIdx
  rw [List.filter_map]
  rfl
theorem liveIdx_len (now : Int) (n : Nat) (T U : Nat → Int) : (live now (pairs n T U)).length = (liveIdx now n U).length := by rw [live_pairs]; simp
theorem liveIdx_get (now : Int) (n : Nat) (T U : Nat → Int) (j : Nat) (h : j < (live now (pairs n T U)).length) :
    (live now (pairs n T U)).getD j (0, 0) = (T ((liveIdx now n U).getD j 0), U ((liveIdx now n U).getD j 0)) := by
  rw [liveIdx_len] at h
  rw [live_pairs]
  simp [h]
theorem liveIdx_mem (now : Int) (n : Nat) (U : Nat → Int) (j : Nat) (h : j < (liveIdx now n U).length) : (liveIdx now n U).getD j 0 < n ∧ now < U ((liveIdx now n U).getD j 0) := by
  have hm : (liveIdx now n U)[j] ∈ liveIdx now n U := List.getElem_mem h
  have he : (liveIdx now n U).getD j 0 = (liveIdx now n U)[j] := by simp [h]
  rw [he]
  unfold liveIdx at hm ⊢
  rw [List.mem_filter] at hm
  exact ⟨by simpa using hm.1, by simpa using hm.2⟩
theorem liveIdx_mono (now : Int) (n : Nat) (U : Nat → Int) (j k : Nat) (hjk : j < k) (h : k < (liveIdx now n U).length) : (liveIdx now n U).getD j 0 < (liveIdx now n U).getD k 0 := by
  have hp : (liveIdx now n U).Pairwise (· < ·) := List.Pairwise.filter _ List.pairwise_lt_range
  have h1 : j < (liveIdx now n U).length := by omega
  have := (List.pairwise_iff_getElem.1 hp) j k h1 h hjk
  simpa [h, h1] using this
theorem rising {T : Nat → Int} {n : Nat} (h : ∀ j, j + 1 < n → T j < T (j + 1)) : ∀ d i, i + d + 1 < n → T i < T (i + d + 1)
  | 0, i, hi => h i hi
  | d + 1, i, hi => by
    have h1 := rising h d i (by omega)
    have h2 := h (i + d + 1) (by omega)
    have e : i + (d + 1) + 1 = i + d + 1 + 1 := by omega
    rw [e]; omega
theorem rising_lt {T : Nat → Int} {n : Nat} (h : ∀ j, j + 1 < n → T j < T (j + 1)) (i k : Nat) (hik : i < k) (hk : k < n) : T i < T k := by
  have := rising h (k - i - 1) i (by omega)
  rwa [show i + (k - i - 1) + 1 = k from by omega] at this
end Go.Proofs.Qxb6612989a
