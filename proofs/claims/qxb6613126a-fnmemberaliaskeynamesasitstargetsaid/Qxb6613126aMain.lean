import Derived.Test.Qxb6613126aFacts
import Derived.Deep.RegionHeld3
import Derived.Deep.DrawnRows
namespace Go.Proofs.Qxb6613126a
open Go.RowKit
set_option linter.unusedVariables false
attribute [local go_sem ↓] Go.wp_at_zero Go.wp_at_succ

/-- the variable n: two pointers -/
def NodeAt (w : World) (B : Nat) (v p : Option Addr) : Prop := w.heap[B]? = some (.cells #[.pointer v, .pointer p] 29 (0, 0))
theorem NodeAt.lt {w : World} {B : Nat} {v p : Option Addr} (h : NodeAt w B v p) : B < w.heap.size := (Array.getElem?_eq_some_iff.1 h).1
theorem NodeAt.below {w w' : World} {B : Nat} {v p : Option Addr} (h : NodeAt w B v p) (hb : Below w.heap.size w w') : NodeAt w' B v p := (hb.block B h.lt).trans h
theorem NodeAt.c0 {w : World} {B : Nat} {v p : Option Addr} (h : NodeAt w B v p) : w.cell? ⟨B, 0, none⟩ = some (.pointer v) := by unfold NodeAt at h; simp [World.cell?, h]
theorem NodeAt.c1 {w : World} {B : Nat} {v p : Option Addr} (h : NodeAt w B v p) : w.cell? ⟨B, 1, none⟩ = some (.pointer p) := by unfold NodeAt at h; simp [World.cell?, h]
theorem NodeAt.f {w : World} {B : Nat} {v p : Option Addr} (h : NodeAt w B v p) (o : Nat) : w.frozen? ⟨B, o, none⟩ = false := by unfold NodeAt at h; simp [World.frozen?, h]
theorem NodeAt.set {w : World} {B : Nat} {v p : Option Addr} (h : NodeAt w B v p) (v' p' : Option Addr) : NodeAt ((w.setCell ⟨B, 0, none⟩ (.pointer v')).setCell ⟨B, 1, none⟩ (.pointer p')) B v' p' := by
  unfold NodeAt at h ⊢
  simp [World.setCell, Array.getElem?_modify, h]

theorem sel4 {a b c e : Prop} {W : World} {s1 : Nat} {p : Option Addr} {text : ByteArray} (h : a ∧ b ∧ c ∧ StepAt W s1 p text ∧ e) : StepAt W s1 p text := h.2.2.2.1
theorem sel5 {a b c d e : Prop} {W : World} {s1 : Nat} {p : Option Addr} {text : ByteArray} (h : a ∧ b ∧ c ∧ d ∧ StepAt W s1 p text ∧ e) : StepAt W s1 p text := h.2.2.2.2.1
theorem selB {a b c d e f : Prop} {B : Nat} {x W : World} (h : a ∧ b ∧ c ∧ d ∧ e ∧ f ∧ Below B x W) : Below B x W := h.2.2.2.2.2.2
theorem keepS {A C N s1 s2 : Nat} {x : World} {p : Option Addr} {text : ByteArray} {W wk : World}
    (h : W.cell? ⟨A, 1, none⟩ = some (.pointer (some ⟨s1, 0, none⟩)) ∧ W.cell? ⟨C, 1, none⟩ = some (.pointer (some ⟨s2, 0, none⟩)) ∧ W.cell? ⟨N, 1, none⟩ = some (.pointer p) ∧ StepAt W s1 p text ∧ StepAt W s2 p text ∧ (Op.equalIn 9999 25 (.pointer (some ⟨s1, 0, none⟩)) (.pointer (some ⟨s2, 0, none⟩))).run Try.prog W = .ok false W ∧ Below x.heap.size x W)
    (hb : Below W.heap.size W wk) (HE : ∀ w' : World, StepAt w' s1 p text → StepAt w' s2 p text → (Op.equalIn 9999 25 (.pointer (some ⟨s1, 0, none⟩)) (.pointer (some ⟨s2, 0, none⟩))).run Try.prog w' = .ok false w') :
    wk.cell? ⟨A, 1, none⟩ = some (.pointer (some ⟨s1, 0, none⟩)) ∧ wk.cell? ⟨C, 1, none⟩ = some (.pointer (some ⟨s2, 0, none⟩)) ∧ wk.cell? ⟨N, 1, none⟩ = some (.pointer p) ∧ StepAt wk s1 p text ∧ StepAt wk s2 p text ∧ (Op.equalIn 9999 25 (.pointer (some ⟨s1, 0, none⟩)) (.pointer (some ⟨s2, 0, none⟩))).run Try.prog wk = .ok false wk ∧ Below x.heap.size x wk :=
  ⟨cell_below hb h.1, cell_below hb h.2.1, cell_below hb h.2.2.1, h.2.2.2.1.below hb, h.2.2.2.2.1.below hb, HE wk (h.2.2.2.1.below hb) (h.2.2.2.2.1.below hb), h.2.2.2.2.2.2.trans (hb.mono h.2.2.2.2.2.2.size)⟩

set_option maxRecDepth 100000 in
set_option maxHeartbeats 4000000 in
theorem walk3_main (a : Option Addr) (n c : Nat) (S : Nat → ByteArray) (kind text anchor : ByteArray) (w : World) (hn : n ≤ maxLen) (hk : kind.size ≤ maxLen) (ht : text.size ≤ maxLen) (ha : anchor.size ≤ maxLen) (hS : HeldS w a n S) :
    Calls Try.prog 3 #[.slice a n c, .string kind, .string text, .string anchor] w fun e w' => e = .returned (.bool true) ∧ Below w.heap.size w w' := by
  have hby := bytes_any a n c kind text anchor S w hn hk ht ha hS
  have HS : Hid (HeldS w a n S) := hS
  clear hS hn hk ht ha
  go_enter Try.func3, Try.ntmps3
  go_wp2_with fail
  refine hby.mono ?_
  rintro e w' ⟨bb, rfl, rfl, hbb⟩
  cases bb with
  | false =>
    clear hby hbb
    go_wp2
    go_ret
    exact ⟨rfl, Below.refl _ _⟩
  | true =>
  obtain ⟨b1, b2, b3, b4, b5⟩ := hbb rfl
  have HB : Hid (∀ j, j < n → (S j).size ≤ 1048576) := b5
  clear hby hbb b5
  by_cases g1' : 65536 < n
  · go_wp2
    go_ret
    exact ⟨rfl, Below.refl _ _⟩
  have g1 : n ≤ 65536 := by omega
  clear g1'
  by_cases g2' : 1048576 < kind.size + text.size + anchor.size
  · go_wp2
    go_ret
    exact ⟨rfl, Below.refl _ _⟩
  have g2 : kind.size + text.size + anchor.size ≤ 1048576 := by omega
  clear g2'
  go_wp2_with fail
  go_loop [9, 10] (fun z i => ∃ k q : Nat, k ≤ n ∧ i = .int .i64 k ∧ z = .int .i64 q ∧ q ≤ 1048576) (fun _ i => n - (intOf i).toNat)
  case atStart => exact ⟨0, kind.size + text.size + anchor.size, Nat.zero_le _, rfl, by go_num, g2⟩
  case round =>
    obtain ⟨k, q, hkn, rfl, rfl, hq⟩ := hrel
    by_cases hlt : k < n
    · obtain ⟨b, o, rfl, hc, hsz⟩ := HS.out k hlt
      have hs2 := HB.out k hlt
      obtain ⟨s, hs⟩ : ∃ s, s = S k := ⟨_, rfl⟩
      rw [← hs] at hc hsz hs2
      clear hs
      by_cases g3 : q + (16 + s.size) ≤ 1048576
      · go_wp2
        go_round
        case rel => exact ⟨k + 1, q + (16 + s.size), by omega, by go_num, by go_num, g3⟩
        case measure => simp [intOf]; omega
      · go_wp2
        go_ret
        exact ⟨rfl, Below.refl _ _⟩
    · go_wp2_with fail
      obtain ⟨W, hW⟩ : ∃ W, W = (w.alloc (Obj.cells #[.pointer none, .pointer none] 29)) := ⟨_, rfl⟩
      rw [← hW]
      have hWb : Below w.heap.size w W := by subst hW; exact (Below.refl _ _).alloc (Nat.le_refl _) _
      have hWn : NodeAt W w.heap.size none none := by subst hW; exact Deep.blk_alloc_new _ _
      clear hW
      go_loopw [12] (fun i wr => ∃ (m : Nat) (v p : Option Addr), m ≤ n ∧ i = .int .i64 m ∧ Below w.heap.size w wr ∧ NodeAt wr w.heap.size v p) (fun i _ => n - (intOf i).toNat)
      case atStart => exact ⟨0, none, none, Nat.zero_le _, rfl, hWb, hWn⟩
      case round =>
        obtain ⟨m, v, p, hmn, rfl, hbel, hN⟩ := hrel
        by_cases hlm : m < n
        · obtain ⟨b, o, rfl, hc0, hsz⟩ := HS.out m hlm
          obtain ⟨s, hs⟩ : ∃ s, s = S m := ⟨_, rfl⟩
          rw [← hs] at hc0 hsz
          have hcs : wr.cell? ⟨b, o + m, none⟩ = some (.string s) := cell_below hbel hc0
          clear hs hc0 hWb hWn HS HB
          have n0 := hN.c0
          have n1 := hN.c1
          have hlN := hN.lt
          have hlb : b < wr.heap.size := World.block_lt_of_cell? wr _ hcs
          have l0 : (m : Int) < (n : Int) := by omega
          have hb35 : ∀ (i : Int) (w : World), (Instr.build 35 #[(1, .int .i64 i)]).run Try.prog w = .ok (.agg #[.string ⟨#[]⟩, .int .i64 i, .string ⟨#[]⟩, .string ⟨#[]⟩, .string ⟨#[]⟩, .pointer none, .slice none 0 0, .bool false]) w := fun i w => run_build w 35 _ _ (by kernel_rfl)
          go_wp2
          -- (
          go_region_with
            (first
              | (go_at_call 6; refine (scalarKey_any s _).mono ?_; rintro e w6 ⟨key, hkl, rfl, hb6, hkey⟩; have k6 : Below wr.heap.size wr w6 := Below.trans (by repeat (first | exact Below.refl _ _ | refine Below.drew ?_ | refine Below.alloc ?_ (by simp) _)) (hb6.mono (by simp)); have c0 : w6.cell? ⟨w.heap.size, 0, none⟩ = some (.pointer v) := cell_below k6 n0; have c1 : w6.cell? ⟨w.heap.size, 1, none⟩ = some (.pointer p) := cell_below k6 n1; have c2 : w6.cell? ⟨b, o + m, none⟩ = some (.string s) := cell_below k6 hcs; have lb6 : b < w6.heap.size := World.block_lt_of_cell? w6 _ c2; have ln6 : w.heap.size < w6.heap.size := World.block_lt_of_cell? w6 _ c0)
              | (go_at_call 5; refine (ZZNodeMember_any v p key _ s _ (by first | exact hkey | exact hkey.below ((Below.refl _ _).alloc (Nat.le_refl _) _))).mono ?_; rintro e w5 ⟨st, hsl, rfl, hb5, hst⟩; have k5 : Below wr.heap.size wr w5 := Below.trans (by first | exact k6 | exact k6.alloc k6.size _) (hb5.mono (by have := k6.size; simp; omega)); have hN5 := hN.below k5; have c0 : w5.cell? ⟨w.heap.size, 0, none⟩ = some (.pointer v) := hN5.c0; have c1 : w5.cell? ⟨w.heap.size, 1, none⟩ = some (.pointer p) := hN5.c1; have z0 := hN5.f 0; have z1 := hN5.f 1; have c2 : w5.cell? ⟨b, o + m, none⟩ = some (.string s) := cell_below k5 hcs))
          all_goals go_wp2
          all_goals
            go_roundw
            case rel => exact ⟨m + 1, _, _, by omega, by go_num, ((hbel.trans (k5.mono hbel.size)).setCell (Nat.le_refl _) _).setCell (Nat.le_refl _) _, hN5.set _ _⟩
            case measure => simp [intOf]; omega
          -- )
        · have n0 := hN.c0
          have n1 := hN.c1
          have hlt0 := hN.lt
          obtain ⟨W4, hW4⟩ : ∃ W4, W4 = (((wr.alloc (Obj.cells #[.string kind, .int .i64 0, .string ⟨#[]⟩, .string text, .string ⟨#[]⟩, .pointer none, .slice none 0 0, .bool false] 35)).alloc (Obj.cells #[.string ⟨#[97, 108, 105, 97, 115]⟩, .int .i64 0, .string ⟨#[]⟩, .string anchor, .string ⟨#[]⟩, .pointer (some ⟨wr.heap.size, 0, none⟩), .slice none 0 0, .bool false] 35)).alloc (Obj.cells #[.string ⟨#[]⟩, .int .i64 1, .string ⟨#[]⟩, .string ⟨#[]⟩, .string ⟨#[]⟩, .pointer none, .slice none 0 0, .bool false] 35)).alloc (Obj.cells #[.string ⟨#[]⟩, .int .i64 2, .string ⟨#[]⟩, .string ⟨#[]⟩, .string ⟨#[]⟩, .pointer none, .slice none 0 0, .bool false] 35) := ⟨_, rfl⟩
          have hB4 : Below wr.heap.size wr W4 := by subst hW4; exact ((((Below.refl _ _).alloc (Nat.le_refl _) _).alloc (by simp) _).alloc (by simp; omega) _).alloc (by simp; omega) _
          have hS4 : W4.heap.size = wr.heap.size + 4 := by subst hW4; simp
          have hKt : KeyOf W4 wr.heap.size text := by subst hW4; exact .inl ⟨kind, by simp [go_sem], by simp [go_sem], by simp [go_sem]⟩
          have hKa : KeyOf W4 (wr.heap.size + 1) text := by subst hW4; exact .inr ⟨wr.heap.size, by simp [go_sem], by simp [go_sem], by simp [go_sem]⟩
          clear HS HB hWb hWn
          go_upto_region 23 with fail
          rw [← hW4]
          clear hW4
          have hN4 := hN.below hB4
          have n4 := hN4.c0
          have n5 := hN4.c1
          go_wp2_with fail
          refine (ZZNodeMember_any v p wr.heap.size (some ⟨wr.heap.size + 1 + 1, 0, none⟩) text W4 hKt).mono ?_
          rintro e w5 ⟨s1, hs1, rfl, hb5, hst1⟩
          have hN5 := hN4.below hb5
          have p0 := hN5.c0
          have p1 := hN5.c1
          have hlt5 := hN5.lt
          clear n0 n1 n4 n5
          go_wp2_with fail
          obtain ⟨W6, hW6⟩ : ∃ W6, W6 = w5.alloc (Obj.cells #[.pointer (some ⟨wr.heap.size + 1 + 1, 0, none⟩), .pointer (some ⟨s1, 0, none⟩)] 29) := ⟨_, rfl⟩
          rw [← hW6]
          have hB6 : Below w5.heap.size w5 W6 := by subst hW6; exact (Below.refl _ _).alloc (Nat.le_refl _) _
          have hA6 : NodeAt W6 w5.heap.size (some ⟨wr.heap.size + 1 + 1, 0, none⟩) (some ⟨s1, 0, none⟩) := by subst hW6; exact Deep.blk_alloc_new _ _
          clear hW6
          have hN6 := hN5.below hB6
          have hst6 := hst1.below hB6
          refine (ZZNodeMember_any v p (wr.heap.size + 1) (some ⟨wr.heap.size + 1 + 1 + 1, 0, none⟩) text W6 ((hKa.below hb5).below hB6)).mono ?_
          rintro e w7 ⟨s2, hs2, rfl, hb7, hst2⟩
          have hN7 := hN6.below hb7
          have hA7 := hA6.below hb7
          have hst7 := hst6.below hb7
          have hne : s1 ≠ s2 := by have := hst6.lt; omega
          have hBB7 : Below w.heap.size w w7 := hbel.trans ((hB4.trans ((hb5.mono (by omega)).trans ((hB6.mono (by have := hb5.size; omega)).trans (hb7.mono (by have := hb5.size; have := hB6.size; omega))))).mono hbel.size)
          clear hst6 hst1 hN6 hA6 hN5 p0 p1 hlt5 hKa hKt hN4 hb5 hb7 hB6 hs1 hs2 hB4 hbel hN hlt0
          generalize wr.heap.size = R at *
          generalize w5.heap.size = A at *
          go_upto_region 25 with fail
          obtain ⟨W8, hW8⟩ : ∃ W8, W8 = w7.alloc (Obj.cells #[.pointer (some ⟨R + 1 + 1 + 1, 0, none⟩), .pointer (some ⟨s2, 0, none⟩)] 29) := ⟨_, rfl⟩
          rw [← hW8]
          have hB8 : Below w7.heap.size w7 W8 := by subst hW8; exact (Below.refl _ _).alloc (Nat.le_refl _) _
          have hC8 : NodeAt W8 w7.heap.size (some ⟨R + 1 + 1 + 1, 0, none⟩) (some ⟨s2, 0, none⟩) := by subst hW8; exact Deep.blk_alloc_new _ _
          clear hW8
          have hN8 := hN7.below hB8
          have hA8 := hA7.below hB8
          have hst8 := hst7.below hB8
          have hst9 := hst2.below hB8
          have hBB8 : Below w.heap.size w W8 := hBB7.trans (hB8.mono hBB7.size)
          clear hN7 hA7 hst7 hst2 hBB7 hB8
          generalize w7.heap.size = C at *
          have d0 := hA8.c0
          have d1 := hA8.c1
          have d2 := hC8.c0
          have d3 := hC8.c1
          have hq := neq24_same
          go_wp2_with fail
          refine (isRoot_any s1 W8).mono ?_
          rintro e w9 ⟨rfl, hb9⟩
          have hA9 := hA8.below hb9
          have hC9 := hC8.below hb9
          have hN9 := hN8.below hb9
          have hs9 := hst8.below hb9
          have hs9' := hst9.below hb9
          have hBB9 : Below w.heap.size w w9 := hBB8.trans (hb9.mono hBB8.size)
          clear hA8 hC8 hN8 hst8 hst9 hBB8 hb9 d0 d1 d2 d3
          have d3 := hC9.c1
          go_wp2_with fail
          refine (isRoot_any s2 w9).mono ?_
          rintro e w10 ⟨rfl, hb10⟩
          have hA := hA9.below hb10
          have hC := hC9.below hb10
          have hN := hN9.below hb10
          have ht1 := hs9.below hb10
          have ht2 := hs9'.below hb10
          have hBB : Below w.heap.size w w10 := hBB9.trans (hb10.mono hBB9.size)
          clear hA9 hC9 hN9 hs9 hs9' hBB9 hb10 d3 hq
          have r1 := hA.c1
          have r2 := hC.c1
          have r3 := hN.c1
          have hneA : (⟨s1, 0, none⟩ : Addr) ≠ ⟨s2, 0, none⟩ := by intro h; exact hne (congrArg Addr.block h)
          have HE : ∀ w' : World, StepAt w' s1 p text → StepAt w' s2 p text → (Op.equalIn 9999 25 (.pointer (some ⟨s1, 0, none⟩)) (.pointer (some ⟨s2, 0, none⟩))).run Try.prog w' = .ok false w' := fun w' h1 h2 => eq25_other ⟨s1, 0, none⟩ ⟨s2, 0, none⟩ 9998 w' hneA h1 h2
          have hE0 := HE w10 ht1 ht2
          have HEE : Hid (∀ w' : World, StepAt w' s1 p text → StepAt w' s2 p text → (Op.equalIn 9999 25 (.pointer (some ⟨s1, 0, none⟩)) (.pointer (some ⟨s2, 0, none⟩))).run Try.prog w' = .ok false w') := HE
          have heq := fun w => eq25_same p 9998 w
          have HBB : Hid (Below w.heap.size w w10) := hBB
          clear hA hC hN hne hBB HE hneA
          go_wp2_with fail
          go_region_held3 (fun w' => w'.cell? ⟨A, 1, none⟩ = some (.pointer (some ⟨s1, 0, none⟩)) ∧ w'.cell? ⟨C, 1, none⟩ = some (.pointer (some ⟨s2, 0, none⟩)) ∧ w'.cell? ⟨w.heap.size, 1, none⟩ = some (.pointer p) ∧ StepAt w' s1 p text ∧ StepAt w' s2 p text ∧ (Op.equalIn 9999 25 (.pointer (some ⟨s1, 0, none⟩)) (.pointer (some ⟨s2, 0, none⟩))).run Try.prog w' = .ok false w' ∧ Below w10.heap.size w10 w')
            (first | exact ⟨r1, r2, r3, ht1, ht2, HEE.out _ ht1 ht2, (Below.refl w10.heap.size w10).drew⟩ | exact keepS (by assumption) hbK HEE.out)
            (first
              | (go_at_call_of 8 (Value.agg #[Value.pointer (some ⟨s1, 0, none⟩)]); refine (pathName_any s1 text _ (StepAt.c1 (by first | exact sel4 (by assumption) | exact ht1))).mono ?_; rintro e wk ⟨rfl, hbK⟩)
              | (go_at_call_of 8 (Value.agg #[Value.pointer (some ⟨s2, 0, none⟩)]); refine (pathName_any s2 text _ (StepAt.c1 (by first | exact sel5 (by assumption) | exact ht2))).mono ?_; rintro e wk ⟨rfl, hbK⟩)
              | (go_at_call_of 9 (Value.agg #[Value.pointer (some ⟨s1, 0, none⟩)]); refine (pathIndex_any s1 (-1) _ (StepAt.c2 (by first | exact sel4 (by assumption) | exact ht1))).mono ?_; rintro e wk ⟨rfl, hbK⟩)
              | (go_at_call_of 9 (Value.agg #[Value.pointer (some ⟨s2, 0, none⟩)]); refine (pathIndex_any s2 (-1) _ (StepAt.c2 (by first | exact sel5 (by assumption) | exact ht2))).mono ?_; rintro e wk ⟨rfl, hbK⟩)
              | (go_at_call_of 10 (Value.agg #[Value.pointer (some ⟨s1, 0, none⟩)]); refine (pathParent_any s1 p _ (StepAt.c0 (by first | exact sel4 (by assumption) | exact ht1))).mono ?_; rintro e wk ⟨rfl, hbK⟩)
              | (go_at_call_of 10 (Value.agg #[Value.pointer (some ⟨s2, 0, none⟩)]); refine (pathParent_any s2 p _ (StepAt.c0 (by first | exact sel5 (by assumption) | exact ht2))).mono ?_; rintro e wk ⟨rfl, hbK⟩))
          all_goals go_wp2
          all_goals go_ret
          all_goals exact ⟨rfl, HBB.out.trans (Below.mono (selB (by assumption)) HBB.out.size)⟩

theorem walk3 (a : Option Addr) (n c : Nat) (ss : List ByteArray) (kind text anchor : ByteArray) (w : World) (hP : IsStrs w a n c ss) (hk : kind.size ≤ maxLen) (ht : text.size ≤ maxLen) (ha : anchor.size ≤ maxLen) :
    Calls Try.prog 3 #[.slice a n c, .string kind, .string text, .string anchor] w fun e w' => e = .returned (.bool true) ∧ Below w.heap.size w w' :=
  walk3_main a n c _ kind text anchor w hP.len hk ht ha hP.held
end Go.Proofs.Qxb6613126a
