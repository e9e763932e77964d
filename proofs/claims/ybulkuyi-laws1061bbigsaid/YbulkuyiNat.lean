import Derived.Test.YbulkuyiProg
import Derived.WalkKit
import Derived.WalkSpells
import Derived.WalkLawsBesides
import Derived.KernelRfl
import Derived.Laws.CopyOwn
import Derived.LaidEqlPtr
import Derived.Deep.RegionWith
namespace Go.Proofs.Ybulkuyi.NatWalk
open Go.RowKit

theorem size44 : (Yba.prog.info? 44).map (·.size) = some 1 := by kernel_rfl
theorem make1 (w : World) : (Instr.makeSlice 31 (.int .i64 1) (.int .i64 1)).run Yba.prog w = .ok (.slice (some ⟨w.heap.size, 0, none⟩) 1 1) (w.alloc (.cells #[.int .u64 0] 44)) := by kernel_rfl

set_option maxRecDepth 100000 in
set_option maxHeartbeats 400000 in
/-- nat.set: nothing onto nothing. -/
theorem set_none (w : World) : Calls Yba.prog 20 #[.slice none 0 0, .slice none 0 0] w fun e w' => e = .returned (.slice none 0 0) ∧ w' = w := by
  have hcp := fun (w : World) => run_copy_none (P := Yba.prog) w 31 31 3 44 none none 0 0 0 0 Yba.underlying31 size44 rfl
  go_enter Yba.func20, Yba.ntmps20
  go_wp2_with (first | (go_at_call 21; go_in) | refine wpList_copy_nothing rfl (.tmp 9) (.tmp 10) 31 31 rfl 44 Yba.underlying31 size44 _ _ _ _ _ _ rfl rfl rfl ?_)
  go_ret
  exact ⟨rfl, rfl⟩

set_option maxRecDepth 100000 in
set_option maxHeartbeats 400000 in
/-- nat.set: one word onto nothing. -/
theorem set_one (xb : Nat) (u : Int) (w : World) (hx : w.cell? ⟨xb, 0, none⟩ = some (.int .u64 u)) : Calls Yba.prog 20 #[.slice none 0 0, .slice (some ⟨xb, 0, none⟩) 1 1] w fun e w' => ∃ g, e = .returned (.slice (some ⟨g, 0, none⟩) 1 1) ∧ Below w.heap.size w w' := by
  have hmk := make1
  have hxs := World.block_lt_of_cell? w _ hx
  go_enter Yba.func20, Yba.ntmps20
  go_wp2_with (first | (go_at_call 21; go_in) | refine wpList_copy_splice rfl (.tmp 9) (.tmp 10) 31 31 rfl 44 Yba.underlying31 size44 _ _ _ _ _ _ rfl rfl w.heap.size 0 [.int .u64 0] 44 (heap_alloc_new w _) [.int .u64 u] rfl ?cp (by simp) ?c1 w.heap.size w ((Below.refl _ _).alloc (Nat.le_refl _) _) (Nat.le_refl _) ?_)
  case cp =>
    intro j v hj
    match j, hj with
    | 0, hj => simp at hj; subst hj; exact hx
  case c1 => rfl
  intro w2 _ hB
  clear hx hxs
  go_wp2
  go_ret
  exact ⟨_, rfl, hB⟩

/-- nat.set onto nothing: as many words as came. -/
theorem set_any (xv : Value) (ln : Nat) (w : World) (h : (xv = .slice none 0 0 ∧ ln = 0) ∨ ∃ xb u, xv = .slice (some ⟨xb, 0, none⟩) 1 1 ∧ ln = 1 ∧ w.cell? ⟨xb, 0, none⟩ = some (.int .u64 u)) :
    Calls Yba.prog 20 #[.slice none 0 0, xv] w fun e w' => ∃ a c, e = .returned (.slice a ln c) ∧ Below w.heap.size w w' := by
  rcases h with ⟨rfl, rfl⟩ | ⟨xb, u, rfl, rfl, hx⟩
  · refine (set_none w).mono ?_
    rintro e w' ⟨rfl, rfl⟩
    exact ⟨_, _, rfl, Below.refl _ _⟩
  · refine (set_one xb u w hx).mono ?_
    rintro e w' ⟨g, rfl, hb⟩
    exact ⟨_, _, rfl, hb⟩

set_option maxRecDepth 100000 in
set_option maxHeartbeats 400000 in
/-- nat.setWord(1) onto nothing. -/
theorem setWord_one (w : World) : Calls Yba.prog 18 #[.slice none 0 0, .int .u64 1] w fun e w' => ∃ a c, e = .returned (.slice a 1 c) ∧ Below w.heap.size w w' := by
  have hmk := make1
  go_enter Yba.func18, Yba.ntmps18
  go_wp2
  go_ret
  exact ⟨_, _, rfl, (Below.refl _ _).alloc (Nat.le_refl _) _⟩

theorem size33 : (Yba.prog.info? 33).map (·.size) = some 2 := by kernel_rfl

theorem neq_ptr (w : World) {a b : Addr} {ca cb : Array Value} {ta tb : TypeId} (hne : a ≠ b) (ha : w.heap[a.block]? = some (.cells ca ta (0, 0))) (hb : w.heap[b.block]? = some (.cells cb tb (0, 0))) :
    (binOp .neq 37 (.pointer (some a)) (.pointer (some b))).run Yba.prog w = .ok (.bool true) w := by
  obtain ⟨j, hj, hjs⟩ := Option.map_eq_some_iff.1 size33
  have hsz : j.size ≠ 0 := by rw [hjs]; decide
  have h : ∀ d : Nat, (Op.equalIn (d + 1) 37 (.pointer (some a)) (.pointer (some b))).run Yba.prog w = .ok false w := fun d => by
    simp [Op.equalIn, run_underlying Yba.underlying37, sizeOf, typeInfo, hj, hsz, run_sameAddr_other w hne ha hb]
  simp only [binOp]
  simp [Op.equal, Op.maxDepth, h 9999]

/-- A Rat at block RB: its four cells. -/
structure RatAt (RB : Nat) (x0 x1 x2 x3 : Value) (w : World) : Prop where
  blk : w.heap[RB]? = some (.cells #[x0, x1, x2, x3] 35 (0, 0))

theorem RatAt.cell {RB : Nat} {x0 x1 x2 x3 : Value} {w : World} (h : RatAt RB x0 x1 x2 x3 w) (i : Nat) : w.cell? ⟨RB, i, none⟩ = (#[x0, x1, x2, x3] : Array Value)[i]? := by
  rw [cell_of_row w RB i _ 35 (0, 0) h.blk]
theorem RatAt.frz {RB : Nat} {x0 x1 x2 x3 : Value} {w : World} (h : RatAt RB x0 x1 x2 x3 w) (i : Nat) : w.frozen? ⟨RB, i, none⟩ = false := frozen_of_row w RB i _ 35 h.blk
theorem RatAt.lt {RB : Nat} {x0 x1 x2 x3 : Value} {w : World} (h : RatAt RB x0 x1 x2 x3 w) : RB < w.heap.size := (Array.getElem?_eq_some_iff.1 h.blk).1
theorem RatAt.below {RB : Nat} {x0 x1 x2 x3 : Value} {w w' : World} (h : RatAt RB x0 x1 x2 x3 w) (hb : Below w.heap.size w w') : RatAt RB x0 x1 x2 x3 w' := ⟨by rw [hb.block RB h.lt]; exact h.blk⟩
theorem RatAt.set0 {RB : Nat} {x0 x1 x2 x3 : Value} {w : World} (h : RatAt RB x0 x1 x2 x3 w) (y : Value) : RatAt RB y x1 x2 x3 (w.setCell ⟨RB, 0, none⟩ y) := ⟨by simpa using heap_setCell_same w RB 0 _ 35 y h.blk⟩
theorem RatAt.set1 {RB : Nat} {x0 x1 x2 x3 : Value} {w : World} (h : RatAt RB x0 x1 x2 x3 w) (y : Value) : RatAt RB x0 y x2 x3 (w.setCell ⟨RB, 1, none⟩ y) := ⟨by simpa using heap_setCell_same w RB 1 _ 35 y h.blk⟩
theorem RatAt.set3 {RB : Nat} {x0 x1 x2 x3 : Value} {w : World} (h : RatAt RB x0 x1 x2 x3 w) (y : Value) : RatAt RB x0 x1 x2 y (w.setCell ⟨RB, 3, none⟩ y) := ⟨by simpa using heap_setCell_same w RB 3 _ 35 y h.blk⟩

set_option maxRecDepth 100000 in
set_option maxHeartbeats 1000000 in
/-- (*Int).Set of a Rat's numerator. -/
theorem int_set (RB XB : Nat) (neg : Bool) (xv x2 x3 : Value) (ln : Nat) (cx : Array Value) (w : World) (hR : RatAt RB (.bool false) (.slice none 0 0) x2 x3 w) (hX : w.heap[XB]? = some (.cells cx 33 (0, 0))) (hne : ¬ RB = XB)
    (hx0 : w.cell? ⟨XB, 0, none⟩ = some (.bool neg)) (hx1 : w.cell? ⟨XB, 1, none⟩ = some xv)
    (hxv : (xv = .slice none 0 0 ∧ ln = 0) ∨ ∃ xb u, xv = .slice (some ⟨xb, 0, none⟩) 1 1 ∧ ln = 1 ∧ w.cell? ⟨xb, 0, none⟩ = some (.int .u64 u)) :
    Calls Yba.prog 17 #[.pointer (some ⟨RB, 0, none⟩), .pointer (some ⟨XB, 0, none⟩)] w fun e w' => e = .returned (.pointer (some ⟨RB, 0, none⟩)) ∧ ∃ a c, RatAt RB (.bool neg) (.slice a ln c) x2 x3 w' ∧ Below RB w w' := by
  have hnq := neq_ptr w (a := ⟨RB, 0, none⟩) (b := ⟨XB, 0, none⟩) (by intro e; exact hne (congrArg Addr.block e)) hR.blk hX
  have c0 : w.cell? ⟨RB, 0, none⟩ = some (.bool false) := hR.cell 0
  have c1 : w.cell? ⟨RB, 1, none⟩ = some (.slice none 0 0) := hR.cell 1
  have f1 := hR.frz 1
  have HR : Hid (RatAt RB (.bool false) (.slice none 0 0) x2 x3 w) := hR
  have HX : Hid ((xv = .slice none 0 0 ∧ ln = 0) ∨ ∃ xb u, xv = .slice (some ⟨xb, 0, none⟩) 1 1 ∧ ln = 1 ∧ w.cell? ⟨xb, 0, none⟩ = some (.int .u64 u)) := hxv
  have hXl : XB < w.heap.size := (Array.getElem?_eq_some_iff.1 hX).1
  have hne' : ¬ XB = RB := fun e => hne e.symm
  clear hR hX hxv
  go_enter Yba.func17, Yba.ntmps17
  go_wp2
  go_region_with (go_at_call 20; go_must (refine (set_any xv ln w.drew (by exact HX.out)).mono ?_; rintro e w1 ⟨a, c, rfl, hb⟩; have hb' : Below w.heap.size w w1 := ⟨hb.os, hb.tape, hb.output, hb.size, hb.block⟩; have hR1 := HR.out.below hb'; have k0 := hR1.cell 0; have k1 := hR1.cell 1; have g0 := hR1.frz 0; have g1 := hR1.frz 1; have y0 : w1.cell? ⟨XB, 0, none⟩ = some (.bool neg) := by (rw [hb'.cell hXl]; exact hx0)))
  all_goals go_wp2
  all_goals go_ret
  all_goals exact ⟨rfl, a, c, (hR1.set1 _).set0 _, ((hb'.mono (Nat.le_of_lt HR.out.lt)).setCell (Nat.le_refl _) _).setCell (Nat.le_refl _) _⟩

end Go.Proofs.Ybulkuyi.NatWalk
