import Derived.Test.YbulkuwsWrapWalk
import Derived.Deep.QuietTactic
import Derived.BigQuiet
import Derived.Deep.AppendLies
import Derived.Deep.RegionLaw
namespace Go.Proofs.Ybulkuws.MWalk
open Go.RowKit ErrIs WrapWalk

theorem has48 (v : Value) (xT : TypeId) (w : World) : (Instr.typeAssert (.iface 48 v) xT 48 true).run Yba.prog w = .ok (.tuple #[v, .bool true]) w := by kernel_rfl

/-- 'mask>>(uint(id)%64)&1 == 1', as the walk writes it. -/
def bitB (mask id : Int) : Bool := bits .and .u64 (mask / 2 ^ (id % 64).toNat) 1 == 1

/-- The error with an Is method at block M: its mask, and its log, a row of the call's own that holds xs. -/
structure LogAt (M base : Nat) (mask : Int) (xs : List Value) (v : Value) (w : World) : Prop where
  m : w.cell? ⟨M, 0, none⟩ = some (.int .u64 mask)
  l : w.cell? ⟨M, 1, none⟩ = some v
  f : w.frozen? ⟨M, 1, none⟩ = false
  own : w.ownsRow base 3 1 v xs.length xs
  Mb : M < base
  bs : base ≤ w.heap.size

/-- What one call of Is turns: the block M, the log's old row; the new row is the old one or a new block. -/
structure Upd (M : Nat) (v v' : Value) (w w' : World) : Prop where
  os : w'.os = w.os
  tape : w'.tape = w.tape
  output : w'.output = w.output
  size : w.heap.size ≤ w'.heap.size
  block : ∀ k, k < w.heap.size → k ≠ M → some k ≠ v.ownBlock → w'.heap[k]? = w.heap[k]?
  lies : ∀ g, v'.ownBlock = some g → v.ownBlock = some g ∨ w.heap.size ≤ g

theorem own_drewN {w : World} {base e size n : Nat} {v : Value} {xs : List Value} (h : w.ownsRow base e size v n xs) (q : Nat) : (w.drewN q).ownsRow base e size v n xs := h

theorem is_m_post {M base n g cap : Nat} {mask id : Int} {v : Value} {xs : List Value} {w w1 : World} (q : Nat) (hL : LogAt M base mask xs v w)
    (hn : xs.length = n) (hown1 : w1.ownsRow base 3 1 (.slice (some ⟨g, 0, none⟩) (n + 1) cap) (n + 1) (xs ++ [.int .i64 id]))
    (hgrow : (w.alloc (.cells #[.int .i64 id] 3)).drew.grownBy w1 v.ownBlock) (hat : v.ownBlock = some g ∨ g = w.heap.size + 1)
    (hm1 : w1.cell? ⟨M, 0, none⟩ = (w.alloc (.cells #[.int .i64 id] 3)).drew.cell? ⟨M, 0, none⟩) (hv1 : w1.cell? ⟨M, 1, none⟩ = (w.alloc (.cells #[.int .i64 id] 3)).drew.cell? ⟨M, 1, none⟩)
    (hf1 : w1.frozen? ⟨M, 1, none⟩ = (w.alloc (.cells #[.int .i64 id] 3)).drew.frozen? ⟨M, 1, none⟩) :
    LogAt M base mask (xs ++ [.int .i64 id]) (.slice (some ⟨g, 0, none⟩) (n + 1) cap) ((w1.setCell ⟨M, 1, none⟩ (.slice (some ⟨g, 0, none⟩) (n + 1) cap)).drewN q) ∧
    Upd M v (.slice (some ⟨g, 0, none⟩) (n + 1) cap) w ((w1.setCell ⟨M, 1, none⟩ (.slice (some ⟨g, 0, none⟩) (n + 1) cap)).drewN q) := by
  obtain ⟨h1, h2, h3, h4, h5, h6⟩ := hL
  have hMs : M < w.heap.size := by omega
  have hs := hgrow.size
  have hs' : w.heap.size + 1 ≤ w1.heap.size := by simpa using hs
  have e0 : (w.alloc (.cells #[.int .i64 id] 3)).drew.cell? ⟨M, 0, none⟩ = some (.int .u64 mask) := by
    show (w.alloc (.cells #[.int .i64 id] 3)).cell? ⟨M, 0, none⟩ = _
    rw [World.cell?_alloc_past _ _ _ hMs]; exact h1
  have e1 : (w.alloc (.cells #[.int .i64 id] 3)).drew.cell? ⟨M, 1, none⟩ = some v := by
    show (w.alloc (.cells #[.int .i64 id] 3)).cell? ⟨M, 1, none⟩ = _
    rw [World.cell?_alloc_past _ _ _ hMs]; exact h2
  have e2 : (w.alloc (.cells #[.int .i64 id] 3)).drew.frozen? ⟨M, 1, none⟩ = false := by
    show (w.alloc (.cells #[.int .i64 id] 3)).frozen? ⟨M, 1, none⟩ = _
    rw [World.frozen?_alloc_past _ _ _ hMs]; exact h3
  rw [e0] at hm1
  rw [e1] at hv1
  rw [e2] at hf1
  refine ⟨⟨?_, ?_, ?_, ?_, h5, ?_⟩, ⟨?_, ?_, ?_, ?_, ?_, ?_⟩⟩
  · show (w1.setCell _ _).cell? _ = _
    rw [World.cell?_setCell_other _ _ _ _ (by simp)]; exact hm1
  · show (w1.setCell _ _).cell? _ = _
    exact World.cell?_setCell_same _ _ _ hv1
  · show (w1.setCell _ _).frozen? _ = _
    rw [World.frozen?_setCell]; exact hf1
  · have := own_drewN (ownsRow_setCell_below hown1 (a := ⟨M, 1, none⟩) h5 (.slice (some ⟨g, 0, none⟩) (n + 1) cap)) q
    simpa [hn] using this
  · show base ≤ (w1.setCell _ _).heap.size
    simp [World.setCell]; omega
  · exact hgrow.os
  · exact hgrow.tape
  · exact hgrow.output
  · show w.heap.size ≤ (w1.setCell _ _).heap.size
    simp [World.setCell]; omega
  · intro k hk hkM hkv
    show (w1.setCell _ _).heap[k]? = _
    rw [Below.heap_setCell _ _ _ _ hkM, hgrow.block k (by simp; omega) hkv]
    exact Below.heap_alloc w _ k hk
  · intro k hk
    simp [Value.ownBlock] at hk
    subst hk
    rcases hat with h | h
    · exact .inl h
    · exact .inr (by omega)

set_option maxRecDepth 100000 in
set_option maxHeartbeats 1000000 in
theorem is_m (M T base : Nat) (mask id : Int) (v : Value) (xs : List Value) (w : World) (h0 : 0 ≤ id) (h1 : id ≤ 255) (hn : xs.length ≤ 1024) (hL : LogAt M base mask xs v w)
    (hT : w.cell? ⟨T, 0, none⟩ = some (.int .i64 id)) (hTM : ¬ T = M) (hTv : some T ≠ v.ownBlock) :
    Calls Yba.prog 45 #[.pointer (some ⟨M, 0, none⟩), .iface 48 (.pointer (some ⟨T, 0, none⟩))] w fun e w' => e = .returned (.bool (bitB mask id)) ∧ ∃ v', LogAt M base mask (xs ++ [.int .i64 id]) v' w' ∧ Upd M v v' w w' := by
  obtain ⟨n, hlen⟩ : ∃ n, xs.length = n := ⟨_, rfl⟩
  obtain ⟨i0, hi, hz0, hz1, hz2⟩ := info_parts info3
  have h48 := has48
  have hMT : ¬ M = T := fun e => hTM e.symm
  have hTs : T < w.heap.size := World.block_lt_of_cell? w _ hT
  have hown := hL.own
  rw [hlen] at hown hn
  have hMv : some M ≠ v.ownBlock := fun e => by have := (hown.lt M e.symm).1; have := hL.Mb; omega
  have hm := hL.m
  have hv := hL.l
  have hf := hL.f
  have hMb := hL.Mb
  have hbs := hL.bs
  have hMs : M < w.heap.size := by omega
  have HL : Hid (LogAt M base mask xs v w) := hL
  have Hlen : Hid (xs.length = n) := hlen
  clear hL hlen
  go_enter Yba.func45, Yba.ntmps45
  go_wp2
  go_region_law (refine step_append_lies _ rfl (.tmp 18) (.tmp 23) 54 rfl base 3 i0 (.int .i64 0) 1 8 Yba.underlying54 hi hz0 hz1 hz2 rfl (by decide) v n xs (by simp [Act.eval]) (hown.alloc _) ⟨w.heap.size, 0, none⟩ 1 1 [.int .i64 id] (by simp [Act.eval]) rfl (cell_one_new _ _ _) (by intro u hu; simp at hu; subst hu; rfl) (by decide) (by unfold maxLen; omega) (by omega) (by simp; omega) (w.heap.size + 1) (by simp) ?_; intro g cap w1 hown1 hgrow hat hlt; have hv1 := hgrow.cell_far ⟨M, 1, none⟩ (by simp; omega) hMv; have hf1 := hgrow.frozen_far ⟨M, 1, none⟩ (by simp; omega) hMv; have hT1 := hgrow.cell_far ⟨T, 0, none⟩ (by simp; omega) hTv; have hm1 := hgrow.cell_far ⟨M, 0, none⟩ (by simp; omega) hMv)
  all_goals go_wp2
  all_goals go_quiet (fail)
  all_goals go_wp2
  all_goals go_ret
  all_goals exact ⟨rfl, _, is_m_post nq HL.out Hlen.out hown1 hgrow hat hm1 hv1 hf1⟩

theorem hasIsM (v : Value) (xT : TypeId) (w : World) : (Instr.typeAssert (.iface 53 v) xT 118 true).run Yba.prog w = .ok (.tuple #[.iface 53 v, .bool true]) w := run_typeAssert_hasB Yba.underlying118 (by kernel_rfl) v xT w
theorem noUnwrapM (v : Value) (xT : TypeId) (w : World) : (Instr.typeAssert (.iface 53 v) xT 121 true).run Yba.prog w = .ok (.tuple #[.nilIface, .bool false]) w := run_typeAssert_lacksB Yba.underlying121 (by kernel_rfl) (by kernel_rfl) v xT w
theorem noUnwrapsM (v : Value) (xT : TypeId) (w : World) : (Instr.typeAssert (.iface 53 v) xT 123 true).run Yba.prog w = .ok (.tuple #[.nilIface, .bool false]) w := run_typeAssert_lacksB Yba.underlying123 (by kernel_rfl) (by kernel_rfl) v xT w
theorem methodIs (v : Value) (w : World) : (Go.method 436 53 v "Is").run Yba.prog w = .ok (45, v) w := by kernel_rfl

set_option maxRecDepth 100000 in
set_option maxHeartbeats 1000000 in
/-- errors.is at the error with an Is method. -/
theorem is_m26 (M T base : Nat) (mask id : Int) (v : Value) (xs : List Value) (w : World) (h0 : 0 ≤ id) (h1 : id ≤ 255) (hn : xs.length ≤ 1024) (hL : LogAt M base mask xs v w)
    (hT : w.cell? ⟨T, 0, none⟩ = some (.int .i64 id)) (hTM : ¬ T = M) (hTv : some T ≠ v.ownBlock) :
    Calls Yba.prog 26 #[.iface 53 (.pointer (some ⟨M, 0, none⟩)), .iface 48 (.pointer (some ⟨T, 0, none⟩)), .bool true] w fun e w' => e = .returned (.bool (bitB mask id)) ∧ ∃ v', LogAt M base mask (xs ++ [.int .i64 id]) v' w' ∧ Upd M v v' w w' := by
  have hI := hasIsM
  have uE := noUnwrapM
  have vE := noUnwrapsM
  have mI := methodIs
  have hty := run_eql_iface_types (P := Yba.prog) 53 48 (.pointer (some ⟨M, 0, none⟩)) (.pointer (some ⟨T, 0, none⟩)) Yba.underlying52 (by decide) w
  have HL : Hid (LogAt M base mask xs v w) := hL
  have HT : Hid (w.cell? ⟨T, 0, none⟩ = some (.int .i64 id)) := hT
  have HV : Hid (some T ≠ v.ownBlock) := hTv
  clear hL hT hTv
  cases hb : bitB mask id with
  | false =>
    have Hb : Hid (bitB mask id = false) := hb
    clear hb
    go_enter Yba.func26, Yba.ntmps26
    go_wp2
    refine wp_loop_rounds 1 ?_
    rw [rounds_succ]
    go_wp2_with (go_at_call 45; go_must (refine (is_m M T base mask id v xs _ h0 h1 hn HL.out HT.out hTM HV.out).mono ?_; rintro e w' ⟨he, hpost⟩; rw [Hb.out] at he; subst he))
    go_ret
    exact ⟨rfl, hpost⟩
  | true =>
    have Hb : Hid (bitB mask id = true) := hb
    clear hb
    go_enter Yba.func26, Yba.ntmps26
    go_wp2
    refine wp_loop_rounds 1 ?_
    rw [rounds_succ]
    go_wp2_with (go_at_call 45; go_must (refine (is_m M T base mask id v xs _ h0 h1 hn HL.out HT.out hTM HV.out).mono ?_; rintro e w' ⟨he, hpost⟩; rw [Hb.out] at he; subst he))
    go_ret
    exact ⟨rfl, hpost⟩

set_option maxRecDepth 100000 in
set_option maxHeartbeats 1000000 in
/-- errors.Is at the error with an Is method. -/
theorem is_m22 (M T base : Nat) (mask id : Int) (v : Value) (xs : List Value) (w : World) (h0 : 0 ≤ id) (h1 : id ≤ 255) (hn : xs.length ≤ 1024) (hL : LogAt M base mask xs v w)
    (hT : w.cell? ⟨T, 0, none⟩ = some (.int .i64 id)) (hTM : ¬ T = M) (hTv : some T ≠ v.ownBlock) :
    Calls Yba.prog 22 #[.iface 53 (.pointer (some ⟨M, 0, none⟩)), .iface 48 (.pointer (some ⟨T, 0, none⟩))] w fun e w' => e = .returned (.bool (bitB mask id)) ∧ ∃ v', LogAt M base mask (xs ++ [.int .i64 id]) v' w' ∧ Upd M v v' w w' := by
  have h25 := call25
  have h62 := call62
  have tT := isTypeOf
  have cT := isComparable
  have mR := isMethodComparable
  have HL : Hid (LogAt M base mask xs v w) := hL
  have HT : Hid (w.cell? ⟨T, 0, none⟩ = some (.int .i64 id)) := hT
  have HV : Hid (some T ≠ v.ownBlock) := hTv
  clear hL hT hTv
  go_enter Yba.func22, Yba.ntmps22
  go_wp2_with (go_at_call 26; go_must (refine (is_m26 M T base mask id v xs _ h0 h1 hn HL.out HT.out hTM HV.out).mono ?_; rintro e w' ⟨rfl, hpost⟩))
  go_ret
  exact ⟨rfl, hpost⟩

end Go.Proofs.Ybulkuws.MWalk
