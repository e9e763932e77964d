import Derived.Test.YbulkuwsUv
import Derived.Test.YbulkuwsSpanPlain
import Derived.Lib.Walk
import Derived.Lib.VarintMem
import Derived.WalkKit
import Derived.WalkSpells
import Derived.WalkLawsBesides
import Derived.Maps.AppendAt
import Derived.Deep.AppendLies
namespace Go.Proofs.Ybulkuws.SpanUv
open Go.RowKit SpanPlain

theorem info5 : (Yba.prog.info? 5).map (fun i => (i.zero, i.size, i.bytes)) = some (some (.int .u8 0), 1, 1) := by kernel_rfl

/-- What appending to v makes: v's own row may turn, nothing else that was there; the new value lies in that row or in a new block. -/
structure Grew (v v' : Value) (w w' : World) : Prop where
  os : w'.os = w.os
  tape : w'.tape = w.tape
  output : w'.output = w.output
  size : w.heap.size ≤ w'.heap.size
  block : ∀ k, k < w.heap.size → some k ≠ v.ownBlock → w'.heap[k]? = w.heap[k]?
  lies : ∀ g, v'.ownBlock = some g → v.ownBlock = some g ∨ w.heap.size ≤ g

theorem grew_refl (v : Value) (w : World) : Grew v v w w := ⟨rfl, rfl, rfl, Nat.le_refl _, fun _ _ _ => rfl, fun _ h => .inl h⟩

theorem grew_step {v v1 v2 : Value} {w w1 w2 : World} {o : Obj} (h : Grew v v1 w w1) (hg : (w1.alloc o).grownBy w2 v1.ownBlock) (hat : v2.ownBlock = v1.ownBlock ∨ v2.ownBlock = some (w1.heap.size + 1)) : Grew v v2 w w2 := by
  obtain ⟨h1, h2, h3, h4, h5, h6⟩ := h
  have hs : w1.heap.size + 1 ≤ w2.heap.size := by simpa using hg.size
  refine ⟨hg.os.trans h1, hg.tape.trans h2, hg.output.trans h3, by omega, fun k hk hkv => ?_, fun g hg' => ?_⟩
  · rw [hg.block k (by simp; omega) (fun e => ?_)]
    · rw [Below.heap_alloc w1 o k (by omega)]
      exact h5 k hk hkv
    · rcases h6 k e.symm with h | h
      · exact hkv h.symm
      · omega
  · rcases hat with h | h
    · exact h6 g (by rw [← h]; exact hg')
    · right
      rw [h] at hg'
      simp at hg'
      omega

set_option maxRecDepth 100000 in
set_option maxHeartbeats 2000000 in
/-- binary.AppendUvarint onto a slice of the call's own. -/
theorem append_uv (B n x : Nat) (hx : x < 18446744073709551616) (sv : Value) (xs : List Value) (w : World) (hown : w.ownsRow B 5 1 sv n xs) (hBw : B ≤ w.heap.size) (hlim : n ≤ 1000000) :
    Calls Yba.prog 23 #[sv, .int .u64 x] w fun e w' => ∃ v', e = .returned v' ∧ w'.ownsRow B 5 1 v' (n + (Lib.uvarint x).length) (xs ++ Lib.byteCells (Lib.uvarint x)) ∧ Grew sv v' w w' := by
  obtain ⟨i0, hi, hz0, hz1, hz2⟩ := info_parts info5
  have hlen := Lib.uvarint_length64 hx
  go_enter Yba.func23, Yba.ntmps23
  go_wp2
  go_loopw [0, 1] (fun vb vx wr => ∃ (y : Nat) (pre : List UInt8), vx = .int .u64 y ∧ y ≤ x ∧ Lib.uvarint x = pre ++ Lib.uvarint y ∧ wr.ownsRow B 5 1 vb (n + pre.length) (xs ++ Lib.byteCells pre) ∧ Grew sv vb w wr)
    (fun _ vx _ => (intOf vx).toNat)
  case atStart => exact ⟨x, [], rfl, Nat.le_refl _, rfl, by simpa [Lib.byteCells] using hown, grew_refl _ _⟩
  case round =>
    obtain ⟨y, pre, rfl, hy, hsplit, hown1, hgr⟩ := hrel
    have hpl : pre.length + (Lib.uvarint y).length ≤ 10 := by
      have h2 := congrArg List.length hsplit
      rw [List.length_append] at h2
      omega
    have hyp := Lib.uvarint_pos y
    have hsz := hgr.size
    have Hs : Hid (Lib.uvarint x = pre ++ Lib.uvarint y) := hsplit
    have Hg : Hid (Grew sv u0 w wr) := hgr
    clear hsplit hgr hown
    by_cases h128 : 128 ≤ y
    · have hor : bits .or .u8 ((y : Int) % 256) 128 = ((y % 128 + 128 : Nat) : Int) := by
        rw [Lib.u8_or128_any _ (by omega) (by omega)]
        omega
      go_wp2_with (at_builtin; go_must (refine wpList_append_own_at _ rfl _ _ 23 rfl B 5 i0 (.int .u8 0) 1 1 Yba.underlying23 hi hz0 hz1 hz2 rfl (by decide) _ _ _ rfl (hown1.alloc _) ⟨wr.heap.size, 0, none⟩ 1 1 [Value.int .u8 ((y % 128 + 128 : Nat) : Int)] rfl rfl (cell_one_new _ _ _) (by intro u hu; simp at hu; subst hu; rfl) (by unfold maxLen; omega) (by omega) (by simp; omega) ?_))
      intro v' w1 hown' hgrow _ hat
      have R := grew_step Hg.out hgrow hat
      clear hgrow hat
      have HR : Hid (Grew sv v' w w1) := R
      clear R
      go_wp2
      go_roundw
      case rel =>
        refine ⟨y / 128, pre ++ [(y % 128 + 128).toUInt8], by go_num, by omega, by rw [Hs.out, Lib.uvarint_big h128]; simp, ?_, HR.out⟩
        have ec : ((y % 128 + 128 : Nat) : Int) = (y : Int) % 128 + 128 := by omega
        rw [Lib.byteCells_snoc pre (by omega), List.length_append, List.length_singleton, ← Nat.add_assoc, ec]
        simpa using hown'
      case measure => simp [intOf]; omega
    · have hsm : Lib.uvarint y = [y.toUInt8] := Lib.uvarint_small (by omega)
      have Hsm : Hid (Lib.uvarint y = [y.toUInt8]) := hsm
      clear hsm
      go_wp2_with (at_builtin; go_must (refine wpList_append_own_at _ rfl _ _ 23 rfl B 5 i0 (.int .u8 0) 1 1 Yba.underlying23 hi hz0 hz1 hz2 rfl (by decide) _ _ _ rfl (hown1.alloc _) ⟨wr.heap.size, 0, none⟩ 1 1 [Value.int .u8 (y : Int)] rfl rfl (cell_one_new _ _ _) (by intro u hu; simp at hu; subst hu; rfl) (by unfold maxLen; omega) (by omega) (by simp; omega) ?_))
      intro v' w1 hown' hgrow _ hat
      have R := grew_step Hg.out hgrow hat
      clear hgrow hat
      go_wp2
      go_ret
      refine ⟨v', rfl, ?_, R⟩
      rw [Hs.out, Hsm.out, Lib.byteCells_snoc pre (by omega), List.length_append, List.length_singleton, ← Nat.add_assoc]
      simpa using hown'

end Go.Proofs.Ybulkuws.SpanUv
