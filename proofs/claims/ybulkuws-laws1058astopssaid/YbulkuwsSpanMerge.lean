import Derived.Test.YbulkuwsSpanAdd
namespace Go.Proofs.Ybulkuws.SpanMerge
open Go.RowKit SpanPlain SpanUv SpanAdd

theorem own_take {w : World} {base e n cap g k : Nat} {xs : List Value} (h : w.ownsRow base e 1 (.slice (some ⟨g, 0, none⟩) n cap) n xs) (hk : k ≤ n) : w.ownsRow base e 1 (.slice (some ⟨g, 0, none⟩) k cap) k (xs.take k) := by
  obtain ⟨h1, h2⟩ := h
  rcases h2 with ⟨h2, _⟩ | ⟨g', cap', cur, hv, hb, hh, hnc, hcm, hcs, ht⟩
  · simp at h2
  · simp at hv
    obtain ⟨rfl, rfl⟩ := hv
    refine ⟨by simp; omega, .inr ⟨g, cap, cur, rfl, hb, hh, by omega, hcm, hcs, ?_⟩⟩
    rw [← ht, List.take_take]
    congr 1
    omega

theorem grew_as {u v v' : Value} {w w1 : World} (h : Grew u v' w w1) (e : u.ownBlock = v.ownBlock) : Grew v v' w w1 := by
  obtain ⟨h1, h2, h3, h4, h5, h6⟩ := h
  rw [e] at h5 h6
  exact ⟨h1, h2, h3, h4, h5, h6⟩

theorem grew_drewN {v v' : Value} {w w1 : World} {q : Nat} (h : Grew v v' (w.drewN q) w1) : Grew v v' w w1 := ⟨h.os, h.tape, h.output, h.size, h.block, h.lies⟩

/-- Behind the varint of a merged span's length. -/
theorem merge_mid {PB base k m x g n cap : Nat} {x1 x2 v' : Value} {xs : List Value} {w w1 : World} {q : Nat} (hc : Cells PB (.slice (some ⟨g, 0, none⟩) n cap) x1 x2 w) (hown : w.ownsRow base 5 1 (.slice (some ⟨g, 0, none⟩) k cap) k xs) (hPb : PB < base) (hm : k + (Lib.uvarint x).length = m)
    (hown1 : w1.ownsRow base 5 1 v' m (xs ++ Lib.byteCells (Lib.uvarint x))) (hg : Grew (.slice (some ⟨g, 0, none⟩) k cap) v' (w.drewN q) w1) :
    Cells PB (.slice (some ⟨g, 0, none⟩) n cap) x1 x2 w1 ∧ Upd PB (.slice (some ⟨g, 0, none⟩) n cap) v' w w1 ∧ ∃ g' cap', v' = .slice (some ⟨g', 0, none⟩) m cap' := by
  have hg' := grew_drewN hg
  refine ⟨cells_block hc (hg'.block PB (cells_lt hc) (own_apart hown hPb)), upd_grew (upd_refl _ _ _) (grew_as hg' rfl), ?_⟩
  have := Lib.uvarint_pos x
  obtain ⟨g, cap, h, _⟩ := hown1.form (by omega)
  exact ⟨g, cap, h⟩

theorem own_bytes {w : World} {base n g cap : Nat} {A X : List UInt8} (h : w.ownsRow base 5 1 (.slice (some ⟨g, 0, none⟩) n cap) n (Lib.byteCells (A ++ X))) (q : Nat) :
    ∀ j (hj : j < X.length), (w.drewN q).cell? ⟨g, A.length + j, none⟩ = some (.int .u8 (X[j]).toNat) := by
  intro j hj
  have := h.cells (g := g) rfl (A.length + j) (.int .u8 (X[j]).toNat) (by simp [Lib.byteCells, hj])
  rw [Addr.add_lit] at this
  simpa using this

theorem uv_whole (g o n c x : Nat) (w : World) (hx : x < 18446744073709551616) (hl : (Lib.uvarint x).length = n) (hcell : ∀ j (hj : j < (Lib.uvarint x).length), w.cell? ⟨g, o + j, none⟩ = some (.int .u8 ((Lib.uvarint x)[j]).toNat)) :
    Calls Yba.prog 20 #[.slice (some ⟨g, o, none⟩) n c] w fun e w' => e = .returned (.tuple #[.int .u64 x, .int .i64 ((Lib.uvarint x).length : Nat)]) ∧ w' = w := by
  have h := Uv.uv_any g o n c (Lib.uvarint x) w hl hcell
  have e := Uv.dec_uvarint x [] hx
  rw [List.append_nil] at e
  rw [e] at h
  exact h

theorem merge_done {PB base lst : Nat} {L0 : List (Int × Nat)} {d off : Int} {n size : Nat} {v y0 y1 v2 : Value} {wI w2 : World} (hl : (encS L0).length + (Lib.uvarint (u64 d)).length = lst) (hoff : off = endS 0 L0 + d + n)
    (hc : Cells PB y0 y1 (.int .i64 (lst : Nat)) w2) (hown : w2.ownsRow base 5 1 v2 (lst + (Lib.uvarint (n + size)).length) (Lib.byteCells (encS L0 ++ Lib.uvarint (u64 d)) ++ Lib.byteCells (Lib.uvarint (n + size)))) (hPb : PB < base) (hbs : base ≤ w2.heap.size) (hu : Upd PB v v2 wI w2) :
    PosAt PB base (L0 ++ [(d, n + size)]) v2 ((w2.setCell ⟨PB, 0, none⟩ v2).setCell ⟨PB, 1, none⟩ (.int .i64 (off + size))) ∧ Upd PB v v2 wI ((w2.setCell ⟨PB, 0, none⟩ v2).setCell ⟨PB, 1, none⟩ (.int .i64 (off + size))) := by
  refine ⟨⟨?_, ?_, hPb, by simpa [World.setCell] using hbs⟩, upd_set (upd_set hu _ _) _ _⟩
  · have := cells_set1 (cells_set0 hc v2) (.int .i64 (off + size))
    rw [endS_snoc, lastS_snoc, hl, show endS 0 L0 + d + ((n + size : Nat) : Int) = off + size by omega]
    exact this
  · have h := own_set (i := 1) (own_set (i := 0) hown hPb v2) hPb (.int .i64 (off + size))
    rw [encS_snoc]
    have e1 : (encS L0 ++ (Lib.uvarint (u64 d) ++ Lib.uvarint (n + size))).length = lst + (Lib.uvarint (n + size)).length := by simp; omega
    have e2 : Lib.byteCells (encS L0 ++ (Lib.uvarint (u64 d) ++ Lib.uvarint (n + size))) = Lib.byteCells (encS L0 ++ Lib.uvarint (u64 d)) ++ Lib.byteCells (Lib.uvarint (n + size)) := by simp [Lib.byteCells]
    rw [e1, e2]
    exact h

set_option maxRecDepth 100000 in
set_option maxHeartbeats 2000000 in
theorem add_merge (PB base : Nat) (L0 : List (Int × Nat)) (d : Int) (n size : Nat) (off : Int) (sv : Value) (w : World) (hP : PosAt PB base (L0 ++ [(d, n)]) sv w) (hoff : off = endS 0 (L0 ++ [(d, n)])) (hlen : (encS (L0 ++ [(d, n)])).length ≤ 20480)
    (hE1 : -1000000000 ≤ off) (hE2 : off ≤ 1000000000) (hn : n ≤ 100000000) (hs : size ≤ 65535) :
    Calls Yba.prog 18 #[.pointer (some ⟨PB, 0, none⟩), .int .i64 off, .int .i64 (size : Nat)] w fun e w' => e = .returned (.tuple #[]) ∧ ∃ sv', PosAt PB base (L0 ++ [(d, n + size)]) sv' w' ∧ Upd PB sv sv' w w' := by
  have hown := hP.own
  have hup := Lib.uvarint_pos n
  have hxl := Lib.uvarint_length64 (x := n) (by omega)
  obtain ⟨lst, hl⟩ : ∃ lst, (encS L0).length + (Lib.uvarint (u64 d)).length = lst := ⟨_, rfl⟩
  have hlA : (encS L0 ++ Lib.uvarint (u64 d)).length = lst := by simp; omega
  have hes : encS (L0 ++ [(d, n)]) = (encS L0 ++ Lib.uvarint (u64 d)) ++ Lib.uvarint n := by rw [encS_snoc]; simp
  obtain ⟨tot, htot⟩ : ∃ tot, (encS (L0 ++ [(d, n)])).length = tot := ⟨_, rfl⟩
  have htot2 : lst + (Lib.uvarint n).length = tot := by rw [← htot, hes, List.length_append, hlA]
  obtain ⟨a, cap, hsv, hcap, hga⟩ := own_shape hown
  rw [htot] at hsv hcap hga hown hlen
  rw [hes] at hown
  subst hsv
  obtain ⟨g, rfl⟩ := hga (by omega)
  have hcells := hP.cells
  rw [lastS_snoc, hl, ← hoff] at hcells
  have c0 := hcells.c0
  have c1 := hcells.c1
  have c2 := hcells.c2
  have f0 := hcells.f0
  have hPb := hP.Pb
  have hbs := hP.bs
  have hoff2 : off = endS 0 L0 + d + n := by rw [hoff, endS_snoc]
  have hpre := own_take hown (k := lst) (by omega)
  have hpre2 : (Lib.byteCells ((encS L0 ++ Lib.uvarint (u64 d)) ++ Lib.uvarint n)).take lst = Lib.byteCells (encS L0 ++ Lib.uvarint (u64 d)) := by
    rw [show Lib.byteCells ((encS L0 ++ Lib.uvarint (u64 d)) ++ Lib.uvarint n) = Lib.byteCells (encS L0 ++ Lib.uvarint (u64 d)) ++ Lib.byteCells (Lib.uvarint n) by simp [Lib.byteCells]]
    exact List.take_left' (by rw [← hlA]; simp [Lib.byteCells])
  rw [hpre2] at hpre
  have hby := own_bytes hown
  rw [hlA] at hby
  have Hc : Hid (Cells PB (.slice (some ⟨g, 0, none⟩) tot cap) (.int .i64 off) (.int .i64 (lst : Nat)) w) := hcells
  have Hown : Hid (w.ownsRow base 5 1 (.slice (some ⟨g, 0, none⟩) lst cap) lst (Lib.byteCells (encS L0 ++ Lib.uvarint (u64 d)))) := hpre
  have Hby : Hid (∀ q : Nat, ∀ j (hj : j < (Lib.uvarint n).length), (w.drewN q).cell? ⟨g, lst + j, none⟩ = some (.int .u8 ((Lib.uvarint n)[j]).toNat)) := hby
  have Hoff : Hid (off = endS 0 L0 + d + n) := hoff2
  have Hl : Hid ((encS L0).length + (Lib.uvarint (u64 d)).length = lst) := hl
  have Ht : Hid ((Lib.uvarint n).length = tot - lst) := by show _ = _; omega
  have hlt : lst < tot := by omega
  have hl20 : lst ≤ 20480 := by omega
  have hlt' : (lst : Int) ≤ tot := by omega
  have hlc : lst < cap := by omega
  have hcl : ¬ cap = lst := by omega
  have htp : (0 : Int) < tot := by omega
  have hee : (off == off) = true := by simp
  clear hoff hlen hcells hpre hpre2 hby hoff2 hl hown htot2 hes htot hlA hup hxl hP hga hcap
  go_enter Yba.func18, Yba.ntmps18
  go_wp2_with fail
  go_quiet ((go_at_call 20; go_must (exact Calls.quiet_of_same (uv_whole g lst (tot - lst) (cap - lst) n _ (by omega) Ht.out (Hby.out _)))))
  go_wp2_with fail
  go_region_with (go_at_call 23; go_must (rw [← Int.natCast_add]; refine (append_uvm base lst (n + size) (lst + (Lib.uvarint (n + size)).length) (by omega) rfl _ (Lib.byteCells (encS L0 ++ Lib.uvarint (u64 d))) (w.drewN (nq + 1)) (by exact Hown.out) (by exact hbs) (by omega)).mono ?_; rintro e w1 ⟨v', rfl, hown1, hgr⟩; obtain ⟨hc1, hu1, g', cp, hv'⟩ := merge_mid Hc.out Hown.out hPb rfl hown1 hgr; have hbs1 : base ≤ w1.heap.size := Nat.le_trans hbs hu1.size; have HD := merge_done (L0 := L0) (d := d) (off := off) (n := n) (size := size) Hl.out Hoff.out hc1 hown1 hPb hbs1 hu1; have HD' : Hid _ := HD; subst hv'; have k0 := hc1.c0; have k1 := hc1.c1; have g0 := hc1.f0; have g1 := hc1.f1; clear HD hown1 hgr hc1 hu1))
  all_goals go_wp2
  all_goals go_end0
  all_goals exact ⟨rfl, _, HD'.out⟩

end Go.Proofs.Ybulkuws.SpanMerge
