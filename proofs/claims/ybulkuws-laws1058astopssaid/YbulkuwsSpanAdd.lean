import Derived.Test.YbulkuwsSpanUv
import Derived.Deep.RegionWith
import Derived.Deep.QuietTactic
import Derived.BigQuiet
namespace Go.Proofs.Ybulkuws.SpanAdd
open Go.RowKit SpanPlain SpanUv

/-- The three cells of a positions value at block PB. -/
structure Cells (PB : Nat) (x0 x1 x2 : Value) (w : World) : Prop where
  c0 : w.cell? ⟨PB, 0, none⟩ = some x0
  c1 : w.cell? ⟨PB, 1, none⟩ = some x1
  c2 : w.cell? ⟨PB, 2, none⟩ = some x2
  f0 : w.frozen? ⟨PB, 0, none⟩ = false
  f1 : w.frozen? ⟨PB, 1, none⟩ = false
  f2 : w.frozen? ⟨PB, 2, none⟩ = false

theorem cells_block {PB : Nat} {x0 x1 x2 : Value} {w w' : World} (h : Cells PB x0 x1 x2 w) (hb : w'.heap[PB]? = w.heap[PB]?) : Cells PB x0 x1 x2 w' := by
  obtain ⟨h0, h1, h2, g0, g1, g2⟩ := h
  exact ⟨by rw [World.cell?_of_block (w := w) hb]; exact h0, by rw [World.cell?_of_block (w := w) hb]; exact h1, by rw [World.cell?_of_block (w := w) hb]; exact h2,
    by rw [World.frozen?_of_block (w := w) hb]; exact g0, by rw [World.frozen?_of_block (w := w) hb]; exact g1, by rw [World.frozen?_of_block (w := w) hb]; exact g2⟩
theorem cells_lt {PB : Nat} {x0 x1 x2 : Value} {w : World} (h : Cells PB x0 x1 x2 w) : PB < w.heap.size := World.block_lt_of_cell? w _ h.c0
theorem cells_set0 {PB : Nat} {x0 x1 x2 : Value} {w : World} (h : Cells PB x0 x1 x2 w) (y : Value) : Cells PB y x1 x2 (w.setCell ⟨PB, 0, none⟩ y) := by
  obtain ⟨h0, h1, h2, g0, g1, g2⟩ := h
  exact ⟨World.cell?_setCell_same _ _ _ h0, by rw [World.cell?_setCell_other _ _ _ _ (by simp)]; exact h1, by rw [World.cell?_setCell_other _ _ _ _ (by simp)]; exact h2, by simpa using g0, by simpa using g1, by simpa using g2⟩
theorem cells_set1 {PB : Nat} {x0 x1 x2 : Value} {w : World} (h : Cells PB x0 x1 x2 w) (y : Value) : Cells PB x0 y x2 (w.setCell ⟨PB, 1, none⟩ y) := by
  obtain ⟨h0, h1, h2, g0, g1, g2⟩ := h
  exact ⟨by rw [World.cell?_setCell_other _ _ _ _ (by simp)]; exact h0, World.cell?_setCell_same _ _ _ h1, by rw [World.cell?_setCell_other _ _ _ _ (by simp)]; exact h2, by simpa using g0, by simpa using g1, by simpa using g2⟩
theorem cells_set2 {PB : Nat} {x0 x1 x2 : Value} {w : World} (h : Cells PB x0 x1 x2 w) (y : Value) : Cells PB x0 x1 y (w.setCell ⟨PB, 2, none⟩ y) := by
  obtain ⟨h0, h1, h2, g0, g1, g2⟩ := h
  exact ⟨by rw [World.cell?_setCell_other _ _ _ _ (by simp)]; exact h0, by rw [World.cell?_setCell_other _ _ _ _ (by simp)]; exact h1, World.cell?_setCell_same _ _ _ h2, by simpa using g0, by simpa using g1, by simpa using g2⟩

/-- What a call turns: the block PB and v's row; the new value lies in that row or in a new block. -/
structure Upd (PB : Nat) (v v' : Value) (w w' : World) : Prop where
  os : w'.os = w.os
  tape : w'.tape = w.tape
  output : w'.output = w.output
  size : w.heap.size ≤ w'.heap.size
  block : ∀ k, k < w.heap.size → k ≠ PB → some k ≠ v.ownBlock → w'.heap[k]? = w.heap[k]?
  lies : ∀ g, v'.ownBlock = some g → v.ownBlock = some g ∨ w.heap.size ≤ g

theorem upd_refl (PB : Nat) (v : Value) (w : World) : Upd PB v v w w := ⟨rfl, rfl, rfl, Nat.le_refl _, fun _ _ _ _ => rfl, fun _ h => .inl h⟩
theorem upd_grew {PB : Nat} {v v1 v2 : Value} {w w1 w2 : World} (h : Upd PB v v1 w w1) (g : Grew v1 v2 w1 w2) : Upd PB v v2 w w2 := by
  obtain ⟨h1, h2, h3, h4, h5, h6⟩ := h
  refine ⟨g.os.trans h1, g.tape.trans h2, g.output.trans h3, Nat.le_trans h4 g.size, fun k hk hkP hkv => ?_, fun b hb => ?_⟩
  · rw [g.block k (by omega) (fun e => ?_)]
    · exact h5 k hk hkP hkv
    · rcases h6 k e.symm with h | h
      · exact hkv h.symm
      · omega
  · rcases g.lies b hb with h | h
    · exact h6 b h
    · exact .inr (by omega)
theorem upd_set {PB : Nat} {v v1 : Value} {w w1 : World} (h : Upd PB v v1 w w1) (i : Nat) (x : Value) : Upd PB v v1 w (w1.setCell ⟨PB, i, none⟩ x) := by
  obtain ⟨h1, h2, h3, h4, h5, h6⟩ := h
  refine ⟨h1, h2, h3, by simpa [World.setCell] using h4, fun k hk hkP hkv => ?_, h6⟩
  rw [Below.heap_setCell _ _ _ _ hkP]
  exact h5 k hk hkP hkv

/-- The positions at block PB: the spans L as varints in a row of the call's own, where the last ends, where its length starts. -/
structure PosAt (PB base : Nat) (L : List (Int × Nat)) (sv : Value) (w : World) : Prop where
  cells : Cells PB sv (.int .i64 (endS 0 L)) (.int .i64 (lastS L : Nat)) w
  own : w.ownsRow base 5 1 sv (encS L).length (Lib.byteCells (encS L))
  Pb : PB < base
  bs : base ≤ w.heap.size

theorem own_apart {w : World} {base e n PB : Nat} {v : Value} {xs : List Value} (h : w.ownsRow base e 1 v n xs) (hp : PB < base) : some PB ≠ v.ownBlock := fun e => by
  have := (h.lt PB e.symm).1
  omega

theorem own_shape {w : World} {base e n : Nat} {v : Value} {xs : List Value} (h : w.ownsRow base e 1 v n xs) : ∃ a cap, v = .slice a n cap ∧ n ≤ cap ∧ (0 < n → ∃ g, a = some ⟨g, 0, none⟩) := by
  rcases h.2 with ⟨rfl, h2⟩ | ⟨g, cap, cur, rfl, _, _, hc, _⟩
  · exact ⟨none, 0, by rw [h2], by omega, fun hp => by omega⟩
  · exact ⟨_, cap, rfl, hc, fun _ => ⟨g, rfl⟩⟩

theorem conv_gap (off E gap : Int) (h : off = E + gap) (_h1 : -32768 ≤ gap) (_h2 : gap ≤ 32767) : IntKind.u64.wrap (IntKind.i64.wrap (off - E)) = ((u64 gap : Nat) : Int) := by
  rw [u64_cast, show off - E = gap by omega]
  simp [IntKind.wrap, IntKind.signed, IntKind.bits]
  omega

theorem grew_drew {v v' : Value} {w w1 : World} (h : Grew v v' w.drew w1) : Grew v v' w w1 := ⟨h.os, h.tape, h.output, h.size, h.block, h.lies⟩

theorem append_uvm (B n x m : Nat) (hx : x < 18446744073709551616) (hm : n + (Lib.uvarint x).length = m) (sv : Value) (xs : List Value) (w : World) (hown : w.ownsRow B 5 1 sv n xs) (hBw : B ≤ w.heap.size) (hlim : n ≤ 1000000) :
    Calls Yba.prog 23 #[sv, .int .u64 x] w fun e w' => ∃ v', e = .returned v' ∧ w'.ownsRow B 5 1 v' m (xs ++ Lib.byteCells (Lib.uvarint x)) ∧ Grew sv v' w w' := by
  subst hm
  exact append_uv B n x hx sv xs w hown hBw hlim

/-- Behind a varint that was appended. -/
theorem new_mid {PB base n m x : Nat} {v x0 y0 x1 x2 v' : Value} {xs : List Value} {wI w w1 : World} (hc : Cells PB y0 x1 x2 w) (hown : w.ownsRow base 5 1 x0 n xs) (hPb : PB < base) (hu : Upd PB v x0 wI w) (hm : n + (Lib.uvarint x).length = m)
    (hown1 : w1.ownsRow base 5 1 v' m (xs ++ Lib.byteCells (Lib.uvarint x))) (hg : Grew x0 v' w w1) :
    Cells PB y0 x1 x2 w1 ∧ Upd PB v v' wI w1 ∧ ∃ g cap, v' = .slice (some ⟨g, 0, none⟩) m cap := by
  refine ⟨cells_block hc (hg.block PB (cells_lt hc) (own_apart hown hPb)), upd_grew hu hg, ?_⟩
  have := Lib.uvarint_pos x
  obtain ⟨g, cap, h, _⟩ := hown1.form (by omega)
  exact ⟨g, cap, h⟩

theorem own_set {w : World} {base e n PB i : Nat} {v : Value} {xs : List Value} (h : w.ownsRow base e 1 v n xs) (hp : PB < base) (u : Value) : (w.setCell ⟨PB, i, none⟩ u).ownsRow base e 1 v n xs := ownsRow_setCell_below h (a := ⟨PB, i, none⟩) hp u

theorem new_done {PB base m : Nat} {L : List (Int × Nat)} {gap off : Int} {size : Nat} {v y0 y1 y2 v2 : Value} {wI w2 : World} (hm : (encS L).length + (Lib.uvarint (u64 gap)).length = m) (hoff : off = endS 0 L + gap) (hy2 : y2 = .int .i64 (m : Nat))
    (hc : Cells PB y0 y1 y2 w2) (hown : w2.ownsRow base 5 1 v2 (m + (Lib.uvarint size).length) (Lib.byteCells (encS L) ++ Lib.byteCells (Lib.uvarint (u64 gap)) ++ Lib.byteCells (Lib.uvarint size))) (hPb : PB < base) (hbs : base ≤ w2.heap.size) (hu : Upd PB v v2 wI w2) :
    PosAt PB base (L ++ [(gap, size)]) v2 ((w2.setCell ⟨PB, 0, none⟩ v2).setCell ⟨PB, 1, none⟩ (.int .i64 (off + size))) ∧ Upd PB v v2 wI ((w2.setCell ⟨PB, 0, none⟩ v2).setCell ⟨PB, 1, none⟩ (.int .i64 (off + size))) := by
  subst hy2
  refine ⟨⟨?_, ?_, hPb, by simpa [World.setCell] using hbs⟩, upd_set (upd_set hu _ _) _ _⟩
  · have := cells_set1 (cells_set0 hc v2) (.int .i64 (off + size))
    rw [endS_snoc, lastS_snoc, hm, ← hoff]
    exact this
  · have h := own_set (i := 1) (own_set (i := 0) hown hPb v2) hPb (.int .i64 (off + size))
    rw [encS_snoc]
    have e1 : (encS L ++ (Lib.uvarint (u64 gap) ++ Lib.uvarint size)).length = m + (Lib.uvarint size).length := by simp; omega
    have e2 : Lib.byteCells (encS L ++ (Lib.uvarint (u64 gap) ++ Lib.uvarint size)) = Lib.byteCells (encS L) ++ Lib.byteCells (Lib.uvarint (u64 gap)) ++ Lib.byteCells (Lib.uvarint size) := by simp [Lib.byteCells]
    rw [e1, e2]
    exact h

set_option maxRecDepth 100000 in
set_option maxHeartbeats 2000000 in
theorem add_new (PB base : Nat) (L : List (Int × Nat)) (gap : Int) (size : Nat) (off : Int) (sv : Value) (w : World) (hP : PosAt PB base L sv w) (hoff : off = endS 0 L + gap) (hcase : L = [] ∨ gap ≠ 0) (hlen : (encS L).length ≤ 20480)
    (hE1 : -1000000000 ≤ endS 0 L) (hE2 : endS 0 L ≤ 1000000000) (hg1 : -32768 ≤ gap) (hg2 : gap ≤ 32767) (hs : size ≤ 65535) :
    Calls Yba.prog 18 #[.pointer (some ⟨PB, 0, none⟩), .int .i64 off, .int .i64 (size : Nat)] w fun e w' => e = .returned (.tuple #[]) ∧ ∃ sv', PosAt PB base (L ++ [(gap, size)]) sv' w' ∧ Upd PB sv sv' w w' := by
  obtain ⟨a, cap, hsv, hcap, hga⟩ := own_shape hP.own
  subst hsv
  have c0 := hP.cells.c0
  have c1 := hP.cells.c1
  have f0 := hP.cells.f0
  have hown := hP.own
  have hPb := hP.Pb
  have hbs := hP.bs
  obtain ⟨m, hm⟩ : ∃ m, (encS L).length + (Lib.uvarint (u64 gap)).length = m := ⟨_, rfl⟩
  have hm10 := Lib.uvarint_length64 (u64_lt gap)
  have hml : m ≤ 20490 := by omega
  have Hc : Hid (Cells PB (.slice a (encS L).length cap) (.int .i64 (endS 0 L)) (.int .i64 (lastS L : Nat)) w) := hP.cells
  have hconv := conv_gap off (endS 0 L) gap hoff hg1 hg2
  have Hoff : Hid (off = endS 0 L + gap) := hoff
  clear hP hm10
  have hgapE : L ≠ [] → (off == endS 0 L) = false := fun hL => by
    rcases hcase with h | h
    · exact absurd h hL
    · simp; omega
  generalize hE : endS 0 L = E at *
  generalize hn : (encS L).length = n at *
  have HE : Hid (endS 0 L = E) := hE
  have Hn : Hid ((encS L).length = n) := hn
  have Hm : Hid (n + (Lib.uvarint (u64 gap)).length = m) := hm
  have Hconv : Hid (IntKind.u64.wrap (IntKind.i64.wrap (off - E)) = ((u64 gap : Nat) : Int)) := hconv
  have ho1 : -2000000000 ≤ off := by omega
  have ho2 : off ≤ 2000000000 := by omega
  have Hown : Hid (w.ownsRow base 5 1 (.slice a n cap) n (Lib.byteCells (encS L))) := hown
  have hsx : size < 18446744073709551616 := by omega
  clear hE hn hoff hconv hown hm hcase
  by_cases hL : L = []
  · have hn0 : n = 0 := by rw [← Hn.out, hL]; rfl
    subst hn0
    clear hgapE
    go_enter Yba.func18, Yba.ntmps18
    go_wp2_with fail
    go_region_with (go_at_call 23; go_must (rw [Hconv.out]; refine (append_uvm base 0 (u64 gap) m (u64_lt gap) Hm.out _ (Lib.byteCells (encS L)) w.drew (by exact Hown.out) (by exact hbs) (by omega)).mono ?_; rintro e w1 ⟨v', rfl, hown1, hgr⟩; obtain ⟨hc1, hu1, g, cp, hv'⟩ := new_mid Hc.out Hown.out hPb (upd_refl PB _ w) Hm.out hown1 (grew_drew hgr); subst hv'; have k0 := hc1.c0; have k2 := hc1.c2; have g0 := hc1.f0; have g2 := hc1.f2))
    all_goals go_wp2_with fail
    all_goals (refine (append_uv base m size hsx _ _ _ (own_set (own_set hown1 hPb _) hPb _) (by have := hu1.size; simp [World.setCell]; omega) (by omega)).mono ?_; rintro e w2 ⟨v2, rfl, hown2, hgr2⟩)
    all_goals
      have hwa : base ≤ w2.heap.size := by have h1 := hu1.size; have h2 := hgr2.size; simp [World.setCell] at h2; omega
      obtain ⟨hc2, hu2, g', cp', hv2⟩ := new_mid (cells_set2 (cells_set0 hc1 _) _) (own_set (own_set hown1 hPb _) hPb _) hPb (upd_set (upd_set hu1 _ _) _ _) rfl hown2 hgr2
      have HD := new_done (L := L) (gap := gap) (off := off) (size := size) (by rw [Hn.out]; exact Hm.out) (by rw [HE.out]; exact Hoff.out) rfl hc2 hown2 hPb hwa hu2
      have HD' : Hid _ := HD
      subst hv2
      have k0' := hc2.c0
      have k1' := hc2.c1
      have g0' := hc2.f0
      have g1' := hc2.f1
      clear HD hc1 hu1 hown1 k0 k2 g0 g2 c0 c1 f0 hown2 hgr2 hc2 hu2
      go_wp2
      go_end0
      exact ⟨rfl, _, HD'.out⟩
  · have hnp : 0 < n := by rw [← Hn.out]; exact encS_pos L hL
    have hnp' : (0 : Int) < n := by omega
    have hge := hgapE hL
    clear hgapE
    go_enter Yba.func18, Yba.ntmps18
    go_wp2_with fail
    go_region_with (go_at_call 23; go_must (rw [Hconv.out]; refine (append_uvm base n (u64 gap) m (u64_lt gap) Hm.out _ (Lib.byteCells (encS L)) w.drew (by exact Hown.out) (by exact hbs) (by omega)).mono ?_; rintro e w1 ⟨v', rfl, hown1, hgr⟩; obtain ⟨hc1, hu1, g, cp, hv'⟩ := new_mid Hc.out Hown.out hPb (upd_refl PB _ w) Hm.out hown1 (grew_drew hgr); subst hv'; have k0 := hc1.c0; have k2 := hc1.c2; have g0 := hc1.f0; have g2 := hc1.f2))
    all_goals go_wp2_with fail
    all_goals (refine (append_uv base m size hsx _ _ _ (own_set (own_set hown1 hPb _) hPb _) (by have := hu1.size; simp [World.setCell]; omega) (by omega)).mono ?_; rintro e w2 ⟨v2, rfl, hown2, hgr2⟩)
    all_goals
      have hwa : base ≤ w2.heap.size := by have h1 := hu1.size; have h2 := hgr2.size; simp [World.setCell] at h2; omega
      obtain ⟨hc2, hu2, g', cp', hv2⟩ := new_mid (cells_set2 (cells_set0 hc1 _) _) (own_set (own_set hown1 hPb _) hPb _) hPb (upd_set (upd_set hu1 _ _) _ _) rfl hown2 hgr2
      have HD := new_done (L := L) (gap := gap) (off := off) (size := size) (by rw [Hn.out]; exact Hm.out) (by rw [HE.out]; exact Hoff.out) rfl hc2 hown2 hPb hwa hu2
      have HD' : Hid _ := HD
      subst hv2
      have k0' := hc2.c0
      have k1' := hc2.c1
      have g0' := hc2.f0
      have g1' := hc2.f1
      clear HD hc1 hu1 hown1 k0 k2 g0 g2 c0 c1 f0 hown2 hgr2 hc2 hu2
      go_wp2
      go_end0
      exact ⟨rfl, _, HD'.out⟩

end Go.Proofs.Ybulkuws.SpanAdd
