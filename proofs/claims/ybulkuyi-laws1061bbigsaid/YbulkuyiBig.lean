import Derived.Test.YbulkuyiNat
namespace Go.Proofs.Ybulkuyi.Big
open Go.RowKit NatWalk

set_option maxRecDepth 100000 in
set_option maxHeartbeats 1000000 in
/-- (*Rat).SetInt. -/
theorem set_int (RB XB : Nat) (neg : Bool) (xv x2 : Value) (ln : Nat) (cx : Array Value) (w : World) (hR : RatAt RB (.bool false) (.slice none 0 0) x2 (.slice none 0 0) w) (hX : w.heap[XB]? = some (.cells cx 33 (0, 0))) (hne : ¬ RB = XB)
    (hx0 : w.cell? ⟨XB, 0, none⟩ = some (.bool neg)) (hx1 : w.cell? ⟨XB, 1, none⟩ = some xv)
    (hxv : (xv = .slice none 0 0 ∧ ln = 0) ∨ ∃ xb u, xv = .slice (some ⟨xb, 0, none⟩) 1 1 ∧ ln = 1 ∧ w.cell? ⟨xb, 0, none⟩ = some (.int .u64 u)) :
    Calls Yba.prog 6 #[.pointer (some ⟨RB, 0, none⟩), .pointer (some ⟨XB, 0, none⟩)] w fun e w' => e = .returned (.pointer (some ⟨RB, 0, none⟩)) ∧ ∃ a c y3, RatAt RB (.bool neg) (.slice a ln c) x2 y3 w' ∧ Below RB w w' := by
  have HR : Hid (RatAt RB (.bool false) (.slice none 0 0) x2 (.slice none 0 0) w) := hR
  have HX : Hid (w.heap[XB]? = some (.cells cx 33 (0, 0))) := hX
  have H0 : Hid (w.cell? ⟨XB, 0, none⟩ = some (.bool neg)) := hx0
  have H1 : Hid (w.cell? ⟨XB, 1, none⟩ = some xv) := hx1
  have HV : Hid ((xv = .slice none 0 0 ∧ ln = 0) ∨ ∃ xb u, xv = .slice (some ⟨xb, 0, none⟩) 1 1 ∧ ln = 1 ∧ w.cell? ⟨xb, 0, none⟩ = some (.int .u64 u)) := hxv
  clear hR hX hx0 hx1 hxv
  go_enter Yba.func6, Yba.ntmps6
  go_wp2_with (go_at_call 17; go_must (refine (int_set RB XB neg xv x2 (.slice none 0 0) ln cx w HR.out HX.out hne H0.out H1.out HV.out).mono ?_; rintro e w1 ⟨rfl, a, c, hR1, hb1⟩; have k3 := hR1.cell 3; have g3 := hR1.frz 3; simp at k3))
  refine (setWord_one w1).mono ?_
  rintro e w2 ⟨a2, c2, rfl, hb2⟩
  have hR2 := hR1.below hb2
  have k3' := hR2.cell 3
  have g3' := hR2.frz 3
  simp at k3'
  have HF : Hid (RatAt RB (.bool neg) (.slice a ln c) x2 (.slice a2 1 c2) (w2.setCell ⟨RB, 3, none⟩ (.slice a2 1 c2)) ∧ Below RB w (w2.setCell ⟨RB, 3, none⟩ (.slice a2 1 c2))) :=
    ⟨hR2.set3 _, (hb1.trans (hb2.mono (Nat.le_of_lt hR1.lt))).setCell (Nat.le_refl _) _⟩
  clear hR1 hb1 hb2 hR2 k3 g3
  go_wp2
  go_ret
  exact ⟨rfl, a, c, _, HF.out⟩

/-- What NewInt makes: an Int at a new block, its sign and its words. -/
def Made (w : World) (neg : Bool) (ln : Nat) (e : Ending) (w' : World) : Prop :=
  ∃ XB xv cx, e = .returned (.pointer (some ⟨XB, 0, none⟩)) ∧ w.heap.size ≤ XB ∧ w'.heap[XB]? = some (.cells cx 33 (0, 0)) ∧ w'.cell? ⟨XB, 0, none⟩ = some (.bool neg) ∧ w'.cell? ⟨XB, 1, none⟩ = some xv ∧
    ((xv = .slice none 0 0 ∧ ln = 0) ∨ ∃ xb u, xv = .slice (some ⟨xb, 0, none⟩) 1 1 ∧ ln = 1 ∧ w'.cell? ⟨xb, 0, none⟩ = some (.int .u64 u)) ∧ Below w.heap.size w w'

set_option maxRecDepth 100000 in
set_option maxHeartbeats 1000000 in
theorem new_zero (w : World) : Calls Yba.prog 7 #[.int .i64 0] w fun e w' => Made w false 0 e w' := by
  go_enter Yba.func7, Yba.ntmps7
  go_wp2
  go_ret
  exact ⟨_, _, _, rfl, Nat.le_refl _, heap_alloc_new w _, by simp, by simp, .inl ⟨rfl, rfl⟩, (Below.refl _ _).alloc (Nat.le_refl _) _⟩

theorem made_one (w : World) (u : Int) (neg : Bool) : Made w neg 1 (.returned (.pointer (some ⟨w.heap.size + 1, 0, none⟩))) ((w.alloc (.cells #[.int .u64 u] 44)).alloc (.cells #[.bool neg, .slice (some ⟨w.heap.size, 0, none⟩) 1 1] 33)) := by
  refine ⟨w.heap.size + 1, .slice (some ⟨w.heap.size, 0, none⟩) 1 1, #[.bool neg, .slice (some ⟨w.heap.size, 0, none⟩) 1 1], rfl, by omega, ?_, ?_, ?_, .inr ⟨w.heap.size, u, rfl, rfl, ?_⟩, ((Below.refl _ _).alloc (Nat.le_refl _) _).alloc (by simp) _⟩
  · have := heap_alloc_new (w.alloc (.cells #[.int .u64 u] 44)) (.cells #[.bool neg, .slice (some ⟨w.heap.size, 0, none⟩) 1 1] 33)
    simpa using this
  · rw [World.cell?_alloc_at _ _ _ _ (by simp)]; rfl
  · rw [World.cell?_alloc_at _ _ _ _ (by simp)]; rfl
  · rw [World.cell?_alloc_past _ _ _ (by simp), World.cell?_alloc_at _ _ _ _ rfl]; rfl

set_option maxRecDepth 100000 in
set_option maxHeartbeats 1000000 in
theorem new_pos (n : Int) (w : World) (h : 0 < n) (_h2 : n ≤ 9223372036854775807) : Calls Yba.prog 7 #[.int .i64 n] w fun e w' => Made w false 1 e w' := by
  have h1 : ¬ n < 0 := by omega
  have h0 : (n == 0) = false := by simp; omega
  go_enter Yba.func7, Yba.ntmps7
  go_wp2
  go_ret
  exact made_one w _ false

set_option maxRecDepth 100000 in
set_option maxHeartbeats 1000000 in
theorem new_neg (n : Int) (w : World) (h : n < 0) : Calls Yba.prog 7 #[.int .i64 n] w fun e w' => Made w true 1 e w' := by
  have h0 : (n == 0) = false := by simp; omega
  go_enter Yba.func7, Yba.ntmps7
  go_wp2
  go_ret
  exact made_one w _ true

/-- The sign of a number, and how many words it takes. -/
theorem new_any (n : Int) (w : World) (h2 : n ≤ 9223372036854775807) : Calls Yba.prog 7 #[.int .i64 n] w fun e w' => Made w (decide (n < 0)) (if n = 0 then 0 else 1) e w' := by
  by_cases h0 : n = 0
  · subst h0
    exact new_zero w
  · rw [if_neg h0]
    by_cases h : n < 0
    · rw [decide_eq_true h]
      exact new_neg n w h
    · rw [decide_eq_false h]
      exact new_pos n w (by omega) h2

theorem rat_new (w : World) : RatAt w.heap.size (.bool false) (.slice none 0 0) (.bool false) (.slice none 0 0) (w.alloc (.cells #[.bool false, .slice none 0 0, .bool false, .slice none 0 0] 35)) := ⟨heap_alloc_new w _⟩

theorem closes {w w2 : World} {o1 o2 : Obj} (h : Below w.heap.size w w2) : Below w.heap.size w ((w2.alloc o1).alloc o2) := (h.alloc h.size _).alloc (by have := h.size; simp; omega) _

set_option maxRecDepth 100000 in
set_option maxHeartbeats 2000000 in
theorem walk_one (n hi lo : Int) (m neg : Bool) (ln : Nat) (w : World) (h2 : n ≤ 9223372036854775807) (hneg : decide (n < 0) = neg) (hln : (if n = 0 then 0 else 1) = ln)
    (hcase : (n < 0 ∧ neg = true ∧ ln = 1) ∨ (n = 0 ∧ neg = false ∧ ln = 0) ∨ (0 < n ∧ neg = false ∧ ln = 1)) :
    Calls Yba.prog 4 #[.int .i64 n, .int .u64 hi, .int .u64 lo, .bool m] w fun e w' => e = .returned (.bool true) ∧ Below w.heap.size w w' := by
  have hnew := new_any n (w.alloc (.cells #[.bool false, .slice none 0 0, .bool false, .slice none 0 0] 35)) h2
  rw [hneg, hln] at hnew
  have Hnew : Hid (Calls Yba.prog 7 #[.int .i64 n] (w.alloc (.cells #[.bool false, .slice none 0 0, .bool false, .slice none 0 0] 35)) fun e w' => Made (w.alloc (.cells #[.bool false, .slice none 0 0, .bool false, .slice none 0 0] 35)) neg ln e w') := hnew
  clear hnew hneg hln
  cases m
  · go_enter Yba.func4, Yba.ntmps4
    go_wp2_with fail
    refine (Hnew.out).mono ?_
    rintro e w1 ⟨XB, xv, cx, rfl, hXB, hX, hx0, hx1, hxv, hb1⟩
    have hR := (rat_new w).below hb1
    go_wp2_with fail
    refine (set_int w.heap.size XB neg xv (.bool false) ln cx w1 hR hX (by simp at hXB; omega) hx0 hx1 hxv).mono ?_
    rintro e w2 ⟨rfl, a, c, y3, hR2, hb2⟩
    have hlt := hR2.lt
    have k0 := hR2.cell 0
    have k1 := hR2.cell 1
    simp at k0 k1
    have hbel : Below w.heap.size w w2 := (((Below.refl _ _).alloc (Nat.le_refl _) _).trans (hb1.mono (by simp))).trans hb2
    clear Hnew hXB hX hx0 hx1 hxv hb1 hR hR2 hb2
    rcases hcase with ⟨hn, rfl, rfl⟩ | ⟨rfl, rfl, rfl⟩ | ⟨hn, rfl, rfl⟩
    · go_wp2
      go_ret
      exact ⟨by simp, closes hbel⟩
    · go_wp2
      go_ret
      exact ⟨by simp, closes hbel⟩
    · have hn' : ¬ n < 0 := by omega
      go_wp2
      go_ret
      exact ⟨by simp, closes hbel⟩
  · go_enter Yba.func4, Yba.ntmps4
    go_wp2_with fail
    refine (Hnew.out).mono ?_
    rintro e w1 ⟨XB, xv, cx, rfl, hXB, hX, hx0, hx1, hxv, hb1⟩
    have hR := (rat_new w).below hb1
    go_wp2_with fail
    refine (set_int w.heap.size XB neg xv (.bool false) ln cx w1 hR hX (by simp at hXB; omega) hx0 hx1 hxv).mono ?_
    rintro e w2 ⟨rfl, a, c, y3, hR2, hb2⟩
    have hlt := hR2.lt
    have k0 := hR2.cell 0
    have k1 := hR2.cell 1
    simp at k0 k1
    have hbel : Below w.heap.size w w2 := (((Below.refl _ _).alloc (Nat.le_refl _) _).trans (hb1.mono (by simp))).trans hb2
    clear Hnew hXB hX hx0 hx1 hxv hb1 hR hR2 hb2
    rcases hcase with ⟨hn, rfl, rfl⟩ | ⟨rfl, rfl, rfl⟩ | ⟨hn, rfl, rfl⟩
    · go_wp2
      go_ret
      exact ⟨by simp, closes hbel⟩
    · go_wp2
      go_ret
      exact ⟨by simp, closes hbel⟩
    · have hn' : ¬ n < 0 := by omega
      go_wp2
      go_ret
      exact ⟨by simp, closes hbel⟩

end Go.Proofs.Ybulkuyi.Big
