import Derived.Test.Qxb6612924aSmall
import Derived.Test.Qxb6612924aCopy
import Derived.WalkSpells
import Derived.Deep.DeepCutAuto
namespace Go.Proofs.Qxb6612924a
open Go.RowKit Go.Deep
set_option linter.unusedVariables false

theorem Try.info21 : (Try.prog.info? 21).map (fun i => (i.zero, i.size, i.bytes)) = some (some (.int .i32 0), 1, 4) := by kernel_rfl

/-- WHAT THE WALK IS TOLD OF A SLICE OF INTEGERS THAT CAME IN. -/
def IsRow (k : IntKind) (w : World) (a : Option Addr) (len cap : Nat) (zs : List Int) : Prop :=
  (a = none ∧ len = 0 ∧ cap = 0 ∧ zs = []) ∨
  ∃ x, a = some x ∧ len ≤ cap ∧ cap ≤ maxLen ∧ zs.length = cap ∧ (∀ i, i < zs.length → w.cell? (x.add i) = some (.int k (zs.getD i 0))) ∧ ∀ n ∈ zs, (Lit.int k n).wf = true

theorem IsRow.below {k : IntKind} {w w' : World} {a : Option Addr} {len cap : Nat} {zs : List Int} (h : IsRow k w a len cap zs) (hb : Below w.heap.size w w') : IsRow k w' a len cap zs := by
  rcases h with h | ⟨x, h1, h2, h3, h4, h5, h6⟩
  · exact .inl h
  · exact .inr ⟨x, h1, h2, h3, h4, fun i hi => by rw [hb.cell (World.block_lt_of_cell? w _ (h5 i hi))]; exact h5 i hi, h6⟩

/-- docs behind the copy: the numbers zs.take L lie at the head of some block of the call's own (or there is none) -/
def Held (B : Nat) (wx : World) (a : Option Addr) (L : Nat) (Z : Nat → Int) : Prop := ∀ j, j < L → ∃ b, a = some ⟨b, 0, none⟩ ∧ B ≤ b ∧ b < wx.heap.size ∧ wx.cell? ⟨b, j, none⟩ = some (.int .i32 (Z j))
theorem Held.below {B : Nat} {wx wy : World} {a : Option Addr} {L : Nat} {Z : Nat → Int} (h : Held B wx a L Z) (hb : Below wx.heap.size wx wy) : Held B wy a L Z := by
  intro j hj
  obtain ⟨b, h1, h2, h3, h4⟩ := h j hj
  exact ⟨b, h1, h2, Nat.lt_of_lt_of_le h3 hb.size, by rw [hb.cell (p := ⟨b, j, none⟩) h3]; exact h4⟩

theorem map_add (b k : Nat) : Option.map (fun x : Addr => x.add k) (some ⟨b, 0, none⟩) = some ⟨b, 0 + k, none⟩ := by
  simp [Addr.add]; intro h; exact h.symm

theorem order_nan_left {a : Nat} (b : Nat) (h : (FloatKind.f64.format.read a).isNaN = true) : FloatKind.f64.format.order a b = none := by
  unfold Ieee.Format.order
  cases hr : FloatKind.f64.format.read a with
  | number => rw [hr] at h; cases h
  | infinity => rw [hr] at h; cases h
  | nan s t => rfl

theorem same_of_prod {x y s t : Nat} (hs : Prodf x y s) (ht : Prodf x y t) : sameB s t = true := by
  rcases hs with ⟨r, h1, rfl⟩ | ⟨h1, h2⟩
  · rcases ht with ⟨r', h3, rfl⟩ | ⟨h3, _⟩
    · rw [h1] at h3
      obtain rfl := Option.some.inj h3
      unfold sameB
      generalize FloatKind.f64.format.order s s = o
      cases h : (o == some Ordering.eq) <;> simp [bne, h]
    · rw [h1] at h3; cases h3
  · rcases ht with ⟨r', h3, rfl⟩ | ⟨_, h4⟩
    · rw [h1] at h3; cases h3
    · unfold sameB
      rw [order_nan_left t h2, order_nan_left s h2, order_nan_left t h4]
      rfl

theorem product_comm (a b : Ieee.Datum) : a.product b = b.product a := by
  cases a <;> cases b <;> simp [Ieee.Datum.product, Bool.xor_comm, Nat.mul_comm, Int.add_comm]

theorem Prodf.swap {x y s : Nat} (h : Prodf x y s) : Prodf y x s := by
  have e : FloatKind.f64.format.mul y x = FloatKind.f64.format.mul x y := by unfold Ieee.Format.mul; rw [product_comm]
  unfold Prodf at h ⊢
  rw [e]; exact h

theorem IsRow.len {k : IntKind} {w : World} {a : Option Addr} {len cap : Nat} {zs : List Int} (h : IsRow k w a len cap zs) : len ≤ maxLen := by
  rcases h with ⟨_, h, _, _⟩ | ⟨x, _, h2, h3, _⟩
  · omega
  · omega

end Go.Proofs.Qxb6612924a
