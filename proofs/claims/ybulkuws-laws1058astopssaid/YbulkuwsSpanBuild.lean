import Derived.Test.YbulkuwsSpanMerge
namespace Go.Proofs.Ybulkuws.SpanBuild
open Go.RowKit SpanPlain SpanUv SpanAdd SpanMerge

theorem info2 : (Yba.prog.info? 2).map (fun i => (i.zero, i.size, i.bytes)) = some (some (.int .i64 0), 1, 8) := by kernel_rfl

/-- '(*positions).add', whichever way it goes. -/
theorem add_any (PB base k : Nat) (L : List (Int × Nat)) (gap : Int) (size : Nat) (off : Int) (sv : Value) (w : World) (hP : PosAt PB base L sv w) (hS : Small k L) (hk : k ≤ 1024) (hoff : off = endS 0 L + gap) (hg1 : -32768 ≤ gap) (hg2 : gap ≤ 32767) (hs : size ≤ 65535) :
    Calls Yba.prog 18 #[.pointer (some ⟨PB, 0, none⟩), .int .i64 off, .int .i64 (size : Nat)] w fun e w' => e = .returned (.tuple #[]) ∧ ∃ sv', PosAt PB base (stepS L gap size) sv' w' ∧ Upd PB sv sv' w w' := by
  have hlen := small_enc hS hk
  have hlo := hS.lo
  have hhi := hS.hi
  by_cases h : L = [] ∨ gap ≠ 0
  · rw [stepS_new L gap size h]
    exact add_new PB base L gap size off sv w hP hoff h hlen (by omega) (by omega) hg1 hg2 hs
  · obtain ⟨hL, rfl⟩ : L ≠ [] ∧ gap = 0 := by
      refine ⟨fun e => h (.inl e), ?_⟩
      exact Classical.byContradiction fun e => h (.inr e)
    rcases List.eq_nil_or_concat L with rfl | ⟨L0, ⟨d, n⟩, rfl⟩
    · exact absurd rfl hL
    · rw [List.concat_eq_append] at *
      rw [stepS_merge]
      have hb := (hS.each (d, n) (by simp)).2.2
      have hb' : n ≤ 65535 * k := hb
      exact add_merge PB base L0 d n size off sv w hP (by omega) hlen (by omega) (by omega) (by omega) hs

/-- Rows of different element types lie in different blocks. -/
theorem own_ne {w : World} {B B' e e' n n' : Nat} {v v' : Value} {xs xs' : List Value} (h : w.ownsRow B e 1 v n xs) (h' : w.ownsRow B' e' 1 v' n' xs') (hne : e ≠ e') : ∀ g, v.ownBlock = some g → some g ≠ v'.ownBlock := by
  intro g hg e1
  rcases h.2 with ⟨rfl, _⟩ | ⟨g1, cap, cur, rfl, _, hgg, _⟩
  · simp [Value.ownBlock] at hg
  · rcases h'.2 with ⟨rfl, _⟩ | ⟨g', cap', cur', rfl, _, hgg', _⟩
    · simp [Value.ownBlock] at e1
    · simp [Value.ownBlock] at hg e1
      subst hg
      subst e1
      rw [hgg] at hgg'
      simp only [Option.some.injEq, Obj.cells.injEq] at hgg'
      exact hne hgg'.2.1

theorem own_same {w w' : World} {base e size n : Nat} {v : Value} {xs : List Value} (h : w.ownsRow base e size v n xs) (hb : ∀ g, v.ownBlock = some g → w'.heap[g]? = w.heap[g]?) : w'.ownsRow base e size v n xs := by
  refine ⟨h.1, ?_⟩
  rcases h.2 with hn | ⟨g, cap, cur, rfl, hbg, hgg, rest⟩
  · exact .inl hn
  · exact .inr ⟨g, cap, cur, rfl, hbg, by rw [hb g rfl]; exact hgg, rest⟩

/-- The building: the positions hold the spans LP, 'want' what the spans LW spell. -/
structure Bld (w0 : World) (LP LW : List (Int × Nat)) (sv wv : Value) (w : World) : Prop where
  pos : PosAt (w0.heap.size + 1) (w0.heap.size + 2) LP sv w
  own : w.ownsRow (w0.heap.size + 2) 2 1 wv (wantS 0 LW).length ((wantS 0 LW).map (Value.int .i64))
  res : Cells w0.heap.size (.slice none 0 0) (.int .i64 0) (.int .i64 0) w
  bel : Below w0.heap.size w0 w

theorem bld_add {w0 w w1 : World} {L LP : List (Int × Nat)} {sv sv' wv : Value} (h : Bld w0 L L sv wv w) (hP : PosAt (w0.heap.size + 1) (w0.heap.size + 2) LP sv' w1) (hU : Upd (w0.heap.size + 1) sv sv' w w1) : Bld w0 LP L sv' wv w1 := by
  obtain ⟨h1, h2, h3, h4⟩ := h
  have hbs := h1.bs
  refine ⟨hP, own_same h2 fun g hg => ?_, cells_block h3 ?_, ?_⟩
  · have := h2.lt g hg
    exact hU.block g this.2 (by omega) (own_ne h2 h1.own (by decide) g hg)
  · exact hU.block _ (by omega) (by omega) (own_apart h1.own (by omega))
  · refine ⟨hU.os.trans h4.os, hU.tape.trans h4.tape, hU.output.trans h4.output, Nat.le_trans h4.size hU.size, fun k hk => ?_⟩
    rw [hU.block k (by omega) (by omega) (own_apart h1.own (by omega))]
    exact h4.block k hk

theorem want_merge (L0 : List (Int × Nat)) (d : Int) (n size : Nat) : wantS 0 (L0 ++ [(d, n + size)]) = (wantS 0 (L0 ++ [(d, n)])).set ((wantS 0 (L0 ++ [(d, n)])).length - 1) (endS 0 (L0 ++ [(d, n)]) + size) := by
  rw [wantS_snoc, wantS_snoc, endS_snoc]
  have e : (wantS 0 L0 ++ [endS 0 L0 + d, endS 0 L0 + d + n]).length - 1 = (wantS 0 L0).length + 1 := by simp
  rw [e, List.set_append_right _ _ (by omega)]
  simp
  omega

theorem pos_other {w0 w w' : World} {LP : List (Int × Nat)} {sv : Value} (h : PosAt (w0.heap.size + 1) (w0.heap.size + 2) LP sv w) (hs : w.heap.size ≤ w'.heap.size) (hP : w'.heap[w0.heap.size + 1]? = w.heap[w0.heap.size + 1]?) (hv : ∀ g, sv.ownBlock = some g → w'.heap[g]? = w.heap[g]?) :
    PosAt (w0.heap.size + 1) (w0.heap.size + 2) LP sv w' := ⟨cells_block h.cells hP, own_same h.own hv, h.Pb, by have := h.bs; omega⟩

theorem bld_merge {w0 w1 : World} {L0 : List (Int × Nat)} {d : Int} {n size len cap gw : Nat} {sv : Value} {x : Int} (h : Bld w0 (L0 ++ [(d, n + size)]) (L0 ++ [(d, n)]) sv (.slice (some ⟨gw, 0, none⟩) len cap) w1) (hl : (wantS 0 (L0 ++ [(d, n)])).length = len) (hx : x = endS 0 (L0 ++ [(d, n)]) + size) :
    Bld w0 (L0 ++ [(d, n + size)]) (L0 ++ [(d, n + size)]) sv (.slice (some ⟨gw, 0, none⟩) len cap) (w1.setCell ⟨gw, len - 1, none⟩ (.int .i64 x)) := by
  obtain ⟨h1, h2, h3, h4⟩ := h
  have hlt := h2.lt gw rfl
  have hne := own_ne h2 h1.own (by decide) gw rfl
  have hbk : ∀ k, k ≠ gw → (w1.setCell ⟨gw, len - 1, none⟩ (.int .i64 x)).heap[k]? = w1.heap[k]? := fun k hk => Below.heap_setCell _ _ _ _ (by simpa using hk)
  refine ⟨pos_other h1 (by simp [World.setCell]) (hbk _ (by omega)) (fun g hg => hbk g (fun e => hne (by rw [← e]; exact hg.symm))), ?_, cells_block h3 (hbk _ (by omega)), h4.setCell (by simp; omega) _⟩
  have e1 : (wantS 0 (L0 ++ [(d, n + size)])).length = len := by rw [want_merge]; simpa using hl
  have e2 : (wantS 0 (L0 ++ [(d, n + size)])).map (Value.int .i64) = ((wantS 0 (L0 ++ [(d, n)])).map (Value.int .i64)).set (len - 1) (.int .i64 x) := by
    rw [want_merge, hl, hx, List.map_set]
  rw [e1, e2]
  rw [hl] at h2
  exact (h2.stored (len - 1) (.int .i64 x)).1

theorem bld_append {w0 w1 w3 : World} {L : List (Int × Nat)} {gap : Int} {size len : Nat} {sv wv wv' : Value} {off x : Int} {o : Obj} (h : Bld w0 (L ++ [(gap, size)]) L sv wv w1) (hl : (wantS 0 L).length = len) (hoff : off = endS 0 L + gap) (hx : x = off + size)
    (hown : w3.ownsRow (w0.heap.size + 2) 2 1 wv' (len + 2) ((wantS 0 L).map (Value.int .i64) ++ [.int .i64 off, .int .i64 x])) (hg : (w1.alloc o).grownBy w3 wv.ownBlock) :
    Bld w0 (L ++ [(gap, size)]) (L ++ [(gap, size)]) sv wv' w3 := by
  obtain ⟨h1, h2, h3, h4⟩ := h
  have hbs := h1.bs
  have hs : w1.heap.size + 1 ≤ w3.heap.size := by simpa using hg.size
  have hbk : ∀ k, k < w1.heap.size → some k ≠ wv.ownBlock → w3.heap[k]? = w1.heap[k]? := fun k hk hkv => by
    rw [hg.block k (by simp; omega) hkv]
    exact Below.heap_alloc w1 o k hk
  refine ⟨pos_other h1 (by omega) (hbk _ (by omega) (own_apart h2 (by omega))) (fun g hg' => ?_), ?_, cells_block h3 (hbk _ (by omega) (own_apart h2 (by omega))), ?_⟩
  · exact hbk g (h1.own.lt g hg').2 (own_ne h1.own h2 (by decide) g hg')
  · rw [wantS_snoc]
    have e1 : (wantS 0 L ++ [endS 0 L + gap, endS 0 L + gap + size]).length = len + 2 := by simp [hl]
    rw [e1, ← hoff, ← hx]
    simpa using hown
  · refine ⟨hg.os.trans h4.os, hg.tape.trans h4.tape, hg.output.trans h4.output, by have := h4.size; omega, fun k hk => ?_⟩
    rw [hbk k (by omega) (own_apart h2 (by omega))]
    exact h4.block k hk

/-- The first k steps. -/
def stepsTo (gp : Nat → Int) (sz : Nat → Nat) (k : Nat) : List (Int × Nat) := (List.range k).map fun i => (gp i, sz i)
theorem stepsTo_succ (gp : Nat → Int) (sz : Nat → Nat) (k : Nat) : stepsTo gp sz (k + 1) = stepsTo gp sz k ++ [(gp k, sz k)] := by simp [stepsTo, List.range_succ]
theorem small_run (gp : Nat → Int) (sz : Nat → Nat) : ∀ k, (∀ i, i < k → -32768 ≤ gp i ∧ gp i ≤ 32767 ∧ sz i ≤ 65535) → Small k (runS (stepsTo gp sz k))
  | 0, _ => small_nil
  | k + 1, h => by
    rw [stepsTo_succ, runS_snoc]
    have := h k (by omega)
    exact small_step (small_run gp sz k fun i hi => h i (by omega)) _ _ this.1 this.2.1 this.2.2

theorem bld_start (w : World) : Bld w [] [] (.slice none 0 0) (.slice none 0 0) ((w.alloc (.cells #[.slice none 0 0, .int .i64 0, .int .i64 0] 25)).alloc (.cells #[.slice none 0 0, .int .i64 0, .int .i64 0] 25)) := by
  refine ⟨⟨⟨?_, ?_, ?_, ?_, ?_, ?_⟩, World.ownsRow_nil _ _ _ _, by omega, by simp⟩, World.ownsRow_nil _ _ _ _, ⟨?_, ?_, ?_, ?_, ?_, ?_⟩, ((Below.refl _ _).alloc (Nat.le_refl _) _).alloc (by simp) _⟩
  · rw [World.cell?_alloc_at _ _ _ _ (by simp)]; rfl
  · rw [World.cell?_alloc_at _ _ _ _ (by simp)]; rfl
  · rw [World.cell?_alloc_at _ _ _ _ (by simp)]; rfl
  · rw [World.frozen?_alloc_at _ _ _ _ (by simp)]
  · rw [World.frozen?_alloc_at _ _ _ _ (by simp)]
  · rw [World.frozen?_alloc_at _ _ _ _ (by simp)]
  · rw [World.cell?_alloc_past _ _ _ (by simp), World.cell?_alloc_at _ _ _ _ rfl]; rfl
  · rw [World.cell?_alloc_past _ _ _ (by simp), World.cell?_alloc_at _ _ _ _ rfl]; rfl
  · rw [World.cell?_alloc_past _ _ _ (by simp), World.cell?_alloc_at _ _ _ _ rfl]; rfl
  · rw [World.frozen?_alloc_past _ _ _ (by simp), World.frozen?_alloc_at _ _ _ _ rfl]
  · rw [World.frozen?_alloc_past _ _ _ (by simp), World.frozen?_alloc_at _ _ _ _ rfl]
  · rw [World.frozen?_alloc_past _ _ _ (by simp), World.frozen?_alloc_at _ _ _ _ rfl]

theorem cell_two_new (w : World) (x y : Value) (t : TypeId) : ∀ j u, [x, y][j]? = some u → (w.alloc (.cells #[x, y] t)).cell? ((⟨w.heap.size, 0, none⟩ : Addr).add j) = some u := by
  intro j u hj
  rw [Addr.add_lit, World.cell?_alloc_at _ _ _ _ rfl]
  simpa using hj

set_option maxRecDepth 100000 in
set_option maxHeartbeats 2000000 in
theorem build (a0 : Option Addr) (n cap : Nat) (gp : Nat → Int) (sz : Nat → Nat) (w : World) (hn : n ≤ 1024) (hb : ∀ i, i < n → -32768 ≤ gp i ∧ gp i ≤ 32767 ∧ sz i ≤ 65535)
    (hsrc : 0 < n → ∃ b off : Nat, a0 = some ⟨b, off, none⟩ ∧ b < w.heap.size ∧ ∀ j, j < n → w.cell? ⟨b, off + j * 2, none⟩ = some (.int .i16 (gp j)) ∧ w.cell? ⟨b, off + j * 2 + 1, none⟩ = some (.int .u16 (sz j : Nat))) :
    Calls Yba.prog 10 #[.slice a0 n cap] w fun e w' => ∃ sv wv, e = .returned (.tuple #[.agg #[sv, .int .i64 (endS 0 (runS (stepsTo gp sz n))), .int .i64 (lastS (runS (stepsTo gp sz n)) : Nat)], wv]) ∧ 
      w'.ownsRow (w.heap.size + 2) 5 1 sv (encS (runS (stepsTo gp sz n))).length (Lib.byteCells (encS (runS (stepsTo gp sz n)))) ∧
      w'.ownsRow (w.heap.size + 2) 2 1 wv (wantS 0 (runS (stepsTo gp sz n))).length ((wantS 0 (runS (stepsTo gp sz n))).map (Value.int .i64)) ∧ Below w.heap.size w w' := by
  obtain ⟨i0, hi, hz0, hz1, hz2⟩ := info_parts info2
  have Hb : Hid (∀ i, i < n → -32768 ≤ gp i ∧ gp i ≤ 32767 ∧ sz i ≤ 65535) := hb
  have HS : Hid (0 < n → ∃ b off : Nat, a0 = some ⟨b, off, none⟩ ∧ b < w.heap.size ∧ ∀ j, j < n → w.cell? ⟨b, off + j * 2, none⟩ = some (.int .i16 (gp j)) ∧ w.cell? ⟨b, off + j * 2 + 1, none⟩ = some (.int .u16 (sz j : Nat))) := hsrc
  clear hb hsrc
  go_enter Yba.func10, Yba.ntmps10
  go_wp2
  go_loopw [5, 6, 7] (fun wv ev i wr => ∃ (k : Nat) (sv : Value), k ≤ n ∧ i = .int .i64 k ∧ ev = .int .i64 (endS 0 (runS (stepsTo gp sz k))) ∧ Bld w (runS (stepsTo gp sz k)) (runS (stepsTo gp sz k)) sv wv wr) (fun _ _ i _ => n - (intOf i).toNat)
  case atStart => exact ⟨0, _, Nat.zero_le _, rfl, rfl, bld_start w⟩
  case round =>
    obtain ⟨k, sv, hkn, rfl, rfl, hB⟩ := hrel
    by_cases hlt : k < n
    · have hlt' : (k : Int) < n := by omega
      obtain ⟨g1, g2, g3⟩ := Hb.out k hlt
      obtain ⟨b, off, ha, hbl, hcs⟩ := HS.out (by omega)
      subst ha
      obtain ⟨hc1, hc2⟩ := hcs k hlt
      have hSm := small_run gp sz k (fun i hi => Hb.out i (by omega))
      have Hnext : Hid (runS (stepsTo gp sz (k + 1)) = stepS (runS (stepsTo gp sz k)) (gp k) (sz k)) := by show _ = _; rw [stepsTo_succ, runS_snoc]
      generalize runS (stepsTo gp sz k) = L at *
      have hlo := hSm.lo
      have hhi := hSm.hi
      have hll := hSm.len
      have Hen := endS_step L (gp k) (sz k)
      have HSm : Hid (Small k L) := hSm
      have d1 : wr.cell? ⟨b, off + k * 2, none⟩ = some (.int .i16 (gp k)) := by rw [hB.bel.cell hbl]; exact hc1
      have d2 : wr.cell? ⟨b, off + k * 2 + 1, none⟩ = some (.int .u16 (sz k : Nat)) := by rw [hB.bel.cell hbl]; exact hc2
      obtain ⟨aw, cw, hwv, hcw, haw⟩ := own_shape hB.own
      have hwl := wantS_length 0 L
      have Hc1 : Hid (w.cell? ⟨b, off + k * 2, none⟩ = some (.int .i16 (gp k))) := hc1
      clear hcs hc1 hc2 hSm
      subst hwv
      generalize hlenw : (wantS 0 L).length = lw at *
      have hE1 : -1000000000 ≤ endS 0 L := by omega
      have hE2 : endS 0 L ≤ 1000000000 := by omega
      have hlw : lw ≤ 2048 := by omega
      generalize hE : endS 0 L = E at *
      generalize gp k = gap at *
      generalize sz k = size at *
      have HE : Hid (endS 0 L = E) := hE
      have Hlen : Hid ((wantS 0 L).length = lw) := hlenw
      have Hend : Hid (endS 0 (stepS L gap size) = E + gap + size) := Hen
      have Hwl : Hid (lw = 2 * L.length) := hwl
      have HB : Hid (Bld w L L sv (.slice aw lw cw) wr) := hB
      have hk24 : k ≤ 1024 := by omega
      clear hE hlenw Hen hB hlo hhi hll hwl Hb HS
      by_cases hnew : L = [] ∨ gap ≠ 0
      · have hstep := stepS_new L gap size hnew
        have Hstep : Hid (stepS L gap size = L ++ [(gap, size)]) := hstep
        clear hstep
        have hguard : (lw = 0) ∨ (0 < lw ∧ (gap == 0) = false) := by
          rcases hnew with h | h
          · left; rw [Hwl.out, h]; rfl
          · rcases Nat.eq_zero_or_pos lw with h0 | h0
            · exact .inl h0
            · exact .inr ⟨h0, by simpa using h⟩
        clear hnew
        rcases hguard with h0 | ⟨h0, h1⟩
        · subst h0
          go_wp2_with fail
          refine (add_any (w.heap.size + 1) (w.heap.size + 2) k L gap size _ sv wr HB.out.pos HSm.out hk24 (by rw [HE.out]) g1 g2 g3).mono ?_
          rintro e w1 ⟨rfl, sv', hP', hU'⟩
          have hM := bld_add HB.out hP' hU'
          rw [Hstep.out] at hM
          have d1' : w1.cell? ⟨b, off + k * 2, none⟩ = some (.int .i16 gap) := by rw [hM.bel.cell hbl]; exact Hc1.out
          have hown := hM.own
          have hbs := hM.pos.bs
          rw [Hlen.out] at hown
          have HM : Hid (Bld w (L ++ [(gap, size)]) L sv' (.slice aw 0 cw) w1) := hM
          clear hM hP' hU' d1 d2
          go_wp2_with (at_builtin; go_must (refine wpList_append_own_at _ rfl _ _ 26 rfl (w.heap.size + 2) 2 i0 (.int .i64 0) 1 8 Yba.underlying26 hi hz0 hz1 hz2 rfl (by decide) _ 0 _ rfl (hown.alloc _) ⟨w1.heap.size, 0, none⟩ 2 2 [.int .i64 (E + gap), .int .i64 (E + gap + size)] rfl rfl (cell_two_new _ _ _ _) (by intro u hu; simp at hu; rcases hu with rfl | rfl <;> rfl) (by unfold maxLen; omega) (by omega) (by simp; omega) ?_))
          intro wv' w3 hown' hgrow _ _
          have R := bld_append (off := E + gap) (x := E + gap + size) HM.out Hlen.out (by rw [HE.out]) rfl (by simpa using hown') hgrow
          rw [← Hstep.out, ← Hnext.out] at R
          have HR : Hid (Bld w (runS (stepsTo gp sz (k + 1))) (runS (stepsTo gp sz (k + 1))) sv' wv' w3) := R
          clear R hown' hgrow hown HM d1'
          go_wp2
          go_roundw
          case rel => exact ⟨k + 1, sv', by omega, by go_num, by rw [Hnext.out, Hend.out], HR.out⟩
          case measure => simp [intOf]; omega
        · have h0' : (0 : Int) < lw := by omega
          go_wp2_with fail
          refine (add_any (w.heap.size + 1) (w.heap.size + 2) k L gap size _ sv wr HB.out.pos HSm.out hk24 (by rw [HE.out]) g1 g2 g3).mono ?_
          rintro e w1 ⟨rfl, sv', hP', hU'⟩
          have hM := bld_add HB.out hP' hU'
          rw [Hstep.out] at hM
          have d1' : w1.cell? ⟨b, off + k * 2, none⟩ = some (.int .i16 gap) := by rw [hM.bel.cell hbl]; exact Hc1.out
          have hown := hM.own
          have hbs := hM.pos.bs
          rw [Hlen.out] at hown
          have HM : Hid (Bld w (L ++ [(gap, size)]) L sv' (.slice aw lw cw) w1) := hM
          clear hM hP' hU' d1 d2
          go_wp2_with (at_builtin; go_must (refine wpList_append_own_at _ rfl _ _ 26 rfl (w.heap.size + 2) 2 i0 (.int .i64 0) 1 8 Yba.underlying26 hi hz0 hz1 hz2 rfl (by decide) _ lw _ rfl (hown.alloc _) ⟨w1.heap.size, 0, none⟩ 2 2 [.int .i64 (E + gap), .int .i64 (E + gap + size)] rfl rfl (cell_two_new _ _ _ _) (by intro u hu; simp at hu; rcases hu with rfl | rfl <;> rfl) (by unfold maxLen; omega) (by omega) (by simp; omega) ?_))
          intro wv' w3 hown' hgrow _ _
          have R := bld_append (off := E + gap) (x := E + gap + size) HM.out Hlen.out (by rw [HE.out]) rfl (by simpa using hown') hgrow
          rw [← Hstep.out, ← Hnext.out] at R
          have HR : Hid (Bld w (runS (stepsTo gp sz (k + 1))) (runS (stepsTo gp sz (k + 1))) sv' wv' w3) := R
          clear R hown' hgrow hown HM d1'
          go_wp2
          go_roundw
          case rel => exact ⟨k + 1, sv', by omega, by go_num, by rw [Hnext.out, Hend.out], HR.out⟩
          case measure => simp [intOf]; omega
      · obtain ⟨hL, hg0⟩ : L ≠ [] ∧ gap = 0 := ⟨fun e => hnew (.inl e), Classical.byContradiction fun e => hnew (.inr e)⟩
        subst hg0
        clear hnew
        rcases List.eq_nil_or_concat L with hnil | ⟨L0, ⟨dd, nn⟩, hcon⟩
        · exact absurd hnil hL
        · rw [List.concat_eq_append] at hcon
          subst hcon
          clear hL
          have Hstep : Hid (stepS (L0 ++ [(dd, nn)]) 0 size = L0 ++ [(dd, nn + size)]) := stepS_merge L0 dd nn size
          have hlw1 : 2 ≤ lw := by have := Hwl.out; simp at this; omega
          obtain ⟨l1, rfl⟩ : ∃ l1, lw = l1 + 1 := ⟨lw - 1, by omega⟩
          obtain ⟨gw, rfl⟩ := haw (by omega)
          have h0' : (0 : Int) < (l1 : Int) + 1 := by omega
          have hzz : ((0 : Int) == 0) = true := by simp
          go_wp2_with fail
          refine (add_any (w.heap.size + 1) (w.heap.size + 2) k (L0 ++ [(dd, nn)]) 0 size _ sv wr HB.out.pos HSm.out hk24 (by rw [HE.out]; simp) g1 g2 g3).mono ?_
          rintro e w1 ⟨rfl, sv', hP', hU'⟩
          have hM := bld_add HB.out hP' hU'
          rw [Hstep.out] at hM
          have d1' : w1.cell? ⟨b, off + k * 2, none⟩ = some (.int .i16 0) := by rw [hM.bel.cell hbl]; exact Hc1.out
          have hown := hM.own
          rw [Hlen.out] at hown
          have hfz := hown.frozenAt l1
          have hcl : ∃ u, w1.cell? ⟨gw, l1, none⟩ = some u := by
            rw [hown.cellAt l1 (by omega)]
            have : l1 < ((wantS 0 (L0 ++ [(dd, nn)])).map (Value.int .i64)).length := by rw [List.length_map, Hlen.out]; omega
            exact ⟨_, List.getElem?_eq_getElem this⟩
          obtain ⟨u, hu⟩ := hcl
          have R := bld_merge (x := E + size) hM Hlen.out (by rw [HE.out])
          rw [← Hstep.out, ← Hnext.out] at R
          have HR : Hid (Bld w (runS (stepsTo gp sz (k + 1))) (runS (stepsTo gp sz (k + 1))) sv' (.slice (some ⟨gw, 0, none⟩) (l1 + 1) cw) (w1.setCell ⟨gw, l1, none⟩ (.int .i64 (E + size)))) := R
          clear R hM hP' hU' d1 d2 hown
          go_wp2
          go_roundw
          case rel => exact ⟨k + 1, sv', by omega, by go_num, by rw [Hnext.out, Hend.out]; simp, HR.out⟩
          case measure => simp [intOf]; omega
    · have hkn' : k = n := by omega
      subst hkn'
      have hlt' : ¬ (k : Int) < k := by omega
      have c0 := hB.pos.cells.c0
      have c1 := hB.pos.cells.c1
      have c2 := hB.pos.cells.c2
      have r0 := hB.res.c0
      have r1 := hB.res.c1
      have r2 := hB.res.c2
      have t0 := hB.res.f0
      have t1 := hB.res.f1
      have t2 := hB.res.f2
      have HB : Hid (Bld w (runS (stepsTo gp sz k)) (runS (stepsTo gp sz k)) sv u5 wr) := hB
      obtain ⟨aw, cw, hwv, _, _⟩ := own_shape hB.pos.own
      subst hwv
      clear hB HS Hb
      go_wp2
      have hF := cells_set2 (cells_set1 (cells_set0 HB.out.res (.slice aw (encS (runS (stepsTo gp sz k))).length cw)) (.int .i64 (endS 0 (runS (stepsTo gp sz k))))) (.int .i64 (lastS (runS (stepsTo gp sz k)) : Nat))
      have q0 := hF.c0
      have q1 := hF.c1
      have q2 := hF.c2
      have hR : w.heap.size < w.heap.size + 2 := by omega
      refine bodyPost_ret (v := .tuple #[.agg #[.slice aw (encS (runS (stepsTo gp sz k))).length cw, .int .i64 (endS 0 (runS (stepsTo gp sz k))), .int .i64 (lastS (runS (stepsTo gp sz k)) : Nat)], u5]) (by simp [results, Yba.results10, go_sem, q0, q1, q2]) rfl ?_
      exact ⟨_, _, rfl, own_set (own_set (own_set HB.out.pos.own hR _) hR _) hR _, own_set (own_set (own_set HB.out.own hR _) hR _) hR _, ((HB.out.bel.setCell (Nat.le_refl _) _).setCell (Nat.le_refl _) _).setCell (Nat.le_refl _) _⟩

end Go.Proofs.Ybulkuws.SpanBuild
