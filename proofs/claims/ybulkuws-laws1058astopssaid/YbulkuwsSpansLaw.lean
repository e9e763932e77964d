import Derived.Test.YbulkuwsSpanIter
namespace Go.Proofs.Ybulkuws.SpansLaw
open Go.RowKit SpanPlain SpanUv SpanAdd SpanMerge SpanBuild SpanIter

/-- 'got' behind some yields: it holds zs; below its own block nothing has turned. -/
structure Got (w0 : World) (G : Nat) (zs : List Int) (w : World) : Prop where
  val : ∃ gv, w.cell? ⟨G, 0, none⟩ = some gv ∧ w.ownsRow w0.heap.size 2 1 gv zs.length (zs.map (Value.int .i64))
  frz : w.frozen? ⟨G, 0, none⟩ = false
  bel : Below G w0 w
  Gb : G < w0.heap.size

set_option maxRecDepth 100000 in
set_option maxHeartbeats 1000000 in
theorem yield12 (w0 : World) (G : Nat) (zs : List Int) (x y : Int) (w : World) (h : Got w0 G zs w) (hl : zs.length ≤ 10000) :
    Calls Yba.prog 12 #[.int .i64 x, .int .i64 y, .pointer (some ⟨G, 0, none⟩)] w fun e w' => e = .returned (.bool true) ∧ Got w0 G (zs ++ [x, y]) w' := by
  obtain ⟨i0, hi, hz0, hz1, hz2⟩ := info_parts info2
  obtain ⟨⟨gv, hc, hown⟩, hf, hbel, hGb⟩ := h
  obtain ⟨n, hn⟩ : ∃ n, zs.length = n := ⟨_, rfl⟩
  rw [hn] at hown hl
  have Hn : Hid (zs.length = n) := hn
  have hsz := hbel.size
  clear hn
  go_enter Yba.func12, Yba.ntmps12
  go_wp2_with (at_builtin; go_must (refine wpList_append_lies _ rfl _ _ 26 rfl w0.heap.size 2 i0 (.int .i64 0) 1 8 Yba.underlying26 hi hz0 hz1 hz2 rfl (by decide) _ n _ rfl (hown.alloc _) ⟨w.heap.size, 0, none⟩ 2 2 [.int .i64 x, .int .i64 y] rfl rfl (cell_two_new _ _ _ _) (by intro u hu; simp at hu; rcases hu with rfl | rfl <;> rfl) (by decide) (by unfold maxLen; omega) (by omega) (by simp; omega) (w.heap.size + 1) (by simp) ?_))
  intro g cap w1 hown1 hgrow hat hlt
  have hGv : some G ≠ gv.ownBlock := own_apart hown hGb
  have hG1 : w1.heap[G]? = w.heap[G]? := by rw [hgrow.block G (by simp; omega) hGv]; exact Below.heap_alloc w _ G (by omega)
  have k0 : w1.cell? ⟨G, 0, none⟩ = some gv := by rw [World.cell?_of_block (w := w) hG1]; exact hc
  have kf : w1.frozen? ⟨G, 0, none⟩ = false := by rw [World.frozen?_of_block (w := w) hG1]; exact hf
  have hs1 : w.heap.size + 1 ≤ w1.heap.size := by simpa using hgrow.size
  have HG : Hid (Got w0 G (zs ++ [x, y]) (w1.setCell ⟨G, 0, none⟩ (.slice (some ⟨g, 0, none⟩) (n + 2) cap))) := by
    show Got _ _ _ _
    refine ⟨⟨_, World.cell?_setCell_same _ _ _ k0, ?_⟩, by simpa using kf, ?_, hGb⟩
    · have := own_set (i := 0) hown1 hGb (.slice (some ⟨g, 0, none⟩) (n + 2) cap)
      simpa [Hn.out] using this
    · refine Below.setCell (p := ⟨G, 0, none⟩) ?_ (show G ≤ G from Nat.le_refl _) _
      refine ⟨hgrow.os.trans hbel.os, hgrow.tape.trans hbel.tape, hgrow.output.trans hbel.output, by omega, fun k hk => ?_⟩
      rw [hgrow.block k (by simp; omega) (own_apart hown (by omega)), Below.heap_alloc w _ k (by omega)]
      exact hbel.block k hk
  clear hown1 hgrow hat hlt hown hc hf
  go_wp2
  go_ret
  exact ⟨rfl, HG.out⟩

set_option maxHeartbeats 400000 in
theorem walk_long (a0 : Option Addr) (len cap : Nat) (w : World) (h : 1024 < len) :
    Calls Yba.prog 3 #[.slice a0 len cap] w fun e w' => e = .returned (.bool true) ∧ Below w.heap.size w w' := by
  have h' : (1024 : Int) < (len : Int) := by omega
  go_enter Yba.func3, Yba.ntmps3
  go_wp2
  go_ret
  exact ⟨rfl, Below.refl _ _⟩

theorem bytes_row {w : World} {base n g cap : Nat} {X : List UInt8} (h : w.ownsRow base 5 1 (.slice (some ⟨g, 0, none⟩) n cap) n (Lib.byteCells X)) :
    ∀ j (hj : j < X.length), w.cell? ⟨g, j, none⟩ = some (.int .u8 (X[j]).toNat) := by
  intro j hj
  have := h.cells (g := g) rfl j (.int .u8 (X[j]).toNat) (by simp [Lib.byteCells, hj])
  rw [Addr.add_lit] at this
  simpa using this

theorem ints_row {w : World} {base n g cap : Nat} {zs : List Int} (h : w.ownsRow base 2 1 (.slice (some ⟨g, 0, none⟩) n cap) n (zs.map (Value.int .i64))) :
    ∀ j, j < zs.length → w.cell? ⟨g, j, none⟩ = some (.int .i64 (zs.getD j 0)) := by
  intro j hj
  have := h.cells (g := g) rfl j (.int .i64 (zs.getD j 0)) (by simp [List.getElem?_eq_getElem hj])
  rw [Addr.add_lit] at this
  simpa using this

theorem small_mono {n : Nat} {L : List (Int × Nat)} (h : Small n L) (hn : n ≤ 1024) : Small 1024 L :=
  ⟨by have := h.len; omega, fun s hs => by have := h.each s hs; omega, by have := h.lo; omega, by have := h.hi; omega⟩

theorem want_take (L : List (Int × Nat)) (k : Nat) (hk : k < L.length) : wantS 0 (L.take (k + 1)) = wantS 0 (L.take k) ++ [startOf L k, stopOf L k] := by
  obtain ⟨d, n, _, htake, hget⟩ := split_at L k hk
  unfold startOf stopOf
  rw [htake, wantS_snoc, hget, endS_snoc]
  rfl

/-- The world at the iterator's call: three blocks more: the positions, 'got', the positions' copy. -/
def atIter (w1 : World) (A : Array Value) : World := ((w1.alloc (.cells A 25)).alloc (.cells #[.slice none 0 0] 26)).alloc (.cells A 25)

theorem iter_facts {w1 : World} {A : Array Value} : (atIter w1 A).heap.size = w1.heap.size + 3 ∧ (∀ i, (atIter w1 A).cell? ⟨w1.heap.size + 1 + 1, i, none⟩ = A[i]?) ∧ Got (atIter w1 A) (w1.heap.size + 1) [] (atIter w1 A) ∧ Below w1.heap.size w1 (atIter w1 A) := by
  unfold atIter
  refine ⟨by simp, fun i => ?_, ⟨⟨.slice none 0 0, ?_, World.ownsRow_nil _ _ _ _⟩, ?_, Below.refl _ _, by simp⟩, ?_⟩
  · rw [World.cell?_alloc_at _ _ _ _ (by simp)]
  · rw [World.cell?_alloc_past _ _ _ (by simp), World.cell?_alloc_at _ _ _ _ (by simp)]; rfl
  · rw [World.frozen?_alloc_past _ _ _ (by simp), World.frozen?_alloc_at _ _ _ _ (by simp)]
  · exact (((Below.refl _ _).alloc (Nat.le_refl _) _).alloc (by simp) _).alloc (by simp; omega) _

/-- The whole iteration that gathers every span. -/
theorem gather (w1 : World) (base n : Nat) (L : List (Int × Nat)) (a1 : Option Addr) (c1 : Nat) (y1 y2 : Value) (hSm : Small n L) (hn : n ≤ 1024) (hc1 : (encS L).length ≤ c1) (hg1 : 0 < (encS L).length → ∃ g, a1 = some ⟨g, 0, none⟩)
    (hsv : w1.ownsRow base 5 1 (.slice a1 (encS L).length c1) (encS L).length (Lib.byteCells (encS L))) :
    Calls Yba.prog 19 #[.func (.func 12) #[] #[.pointer (some ⟨w1.heap.size + 1, 0, none⟩)], .pointer (some ⟨w1.heap.size + 1 + 1, 0, none⟩)] (atIter w1 #[.slice a1 (encS L).length c1, y1, y2])
      fun e w' => e = .returned (.tuple #[]) ∧ Got (atIter w1 #[.slice a1 (encS L).length c1, y1, y2]) (w1.heap.size + 1) (wantS 0 L) w' := by
  obtain ⟨f1, f2, f3, f4⟩ := iter_facts (w1 := w1) (A := #[.slice a1 (encS L).length c1, y1, y2])
  generalize hw2 : atIter w1 #[.slice a1 (encS L).length c1, y1, y2] = w2 at *
  obtain ⟨g, hg⟩ : ∃ g, L ≠ [] → a1 = some ⟨g, 0, none⟩ := by
    by_cases hL : L = []
    · exact ⟨0, fun h => absurd hL h⟩
    · obtain ⟨g, hg⟩ := hg1 (encS_pos L hL)
      exact ⟨g, fun _ => hg⟩
  refine (iter12 (w1.heap.size + 1) (w1.heap.size + 1 + 1) g c1 a1 L (fun k wx => Got w2 (w1.heap.size + 1) (wantS 0 (L.take k)) wx) (fun _ => true) w2 (small_mono hSm hn) (by simpa [wantS] using f3) hg ?_ hc1 (f2 0) ?_).mono ?_
  · intro k wx hJ j hj
    have hL : L ≠ [] := by rintro rfl; simp [encS] at hj
    obtain rfl := hg hL
    have hgl := (hsv.lt g rfl).2
    rw [hJ.bel.cell (by simp; omega), f4.cell (by simpa using hgl)]
    exact bytes_row hsv j hj
  · intro k hk wx hJ
    have hlen := wantS_length 0 (L.take k)
    have hkl : (L.take k).length ≤ 1024 := by have := hSm.len; simp; omega
    refine (yield12 w2 (w1.heap.size + 1) (wantS 0 (L.take k)) (startOf L k) (stopOf L k) wx hJ (by omega)).mono fun e w' h => ?_
    rw [want_take L k hk]
    exact h
  · rintro e w' ⟨rfl, k, hk, hJ, _, h⟩
    refine ⟨rfl, ?_⟩
    rcases h with rfl | ⟨i, _, h⟩
    · simpa using hJ
    · simp at h

set_option maxRecDepth 100000 in
set_option maxHeartbeats 2000000 in
theorem walk_short (a0 : Option Addr) (n cap : Nat) (gp : Nat → Int) (sz : Nat → Nat) (w : World) (hn : n ≤ 1024) (hb : ∀ i, i < n → -32768 ≤ gp i ∧ gp i ≤ 32767 ∧ sz i ≤ 65535)
    (hsrc : 0 < n → ∃ b off : Nat, a0 = some ⟨b, off, none⟩ ∧ b < w.heap.size ∧ ∀ j, j < n → w.cell? ⟨b, off + j * 2, none⟩ = some (.int .i16 (gp j)) ∧ w.cell? ⟨b, off + j * 2 + 1, none⟩ = some (.int .u16 (sz j : Nat))) :
    Calls Yba.prog 3 #[.slice a0 n cap] w fun e w' => e = .returned (.bool true) ∧ Below w.heap.size w w' := by
  have h' : ¬ (1024 : Int) < (n : Int) := by omega
  have hSm := small_run gp sz n hb
  go_enter Yba.func3, Yba.ntmps3
  go_wp2_with fail
  refine (build a0 n cap gp sz w hn hb hsrc).mono ?_
  rintro e w1 ⟨sv, wv, rfl, hsv, hwv, hbel⟩
  clear hb hsrc
  generalize runS (stepsTo gp sz n) = L at *
  obtain ⟨a1, c1, hsv', hc1, hg1⟩ := own_shape hsv
  obtain ⟨a2, c2, hwv', hc2, hg2⟩ := own_shape hwv
  subst hsv'
  subst hwv'
  have Hsv : Hid (w1.ownsRow (w.heap.size + 2) 5 1 (.slice a1 (encS L).length c1) (encS L).length (Lib.byteCells (encS L))) := hsv
  have Hwv : Hid (w1.ownsRow (w.heap.size + 2) 2 1 (.slice a2 (wantS 0 L).length c2) (wantS 0 L).length ((wantS 0 L).map (Value.int .i64))) := hwv
  have HSm : Hid (Small n L) := hSm
  clear hsv hwv hSm
  go_wp2_with (go_at_call 11; go_in)
  refine (gather w1 (w.heap.size + 2) n L a1 c1 (.int .i64 (endS 0 L)) (.int .i64 (lastS L : Nat)) HSm.out hn hc1 hg1 Hsv.out).mono ?_
  rintro e w3 ⟨rfl, hG⟩
  obtain ⟨f1, f2, f3, f4⟩ := iter_facts (w1 := w1) (A := #[.slice a1 (encS L).length c1, .int .i64 (endS 0 L), .int .i64 (lastS L : Nat)])
  generalize atIter w1 #[.slice a1 (encS L).length c1, .int .i64 (endS 0 L), .int .i64 (lastS L : Nat)] = w2 at *
  have hbel2 : Below w1.heap.size w1 w3 := f4.trans (hG.bel.mono (by omega))
  have hbel3 : Below w.heap.size w w3 := hbel.trans (hbel2.mono hbel.size)
  have hwv3 : w3.ownsRow (w.heap.size + 2) 2 1 (.slice a2 (wantS 0 L).length c2) (wantS 0 L).length ((wantS 0 L).map (Value.int .i64)) := own_same Hwv.out fun g hg => hbel2.block g (Hwv.out.lt g hg).2
  obtain ⟨gv, hgc, hgo⟩ := hG.val
  obtain ⟨a3, c3, hgv, hc3, hg3⟩ := own_shape hgo
  subst hgv
  have hlw : (wantS 0 L).length ≤ 2048 := by have := wantS_length 0 L; have := HSm.out.len; omega
  have HR3 : Hid (0 < (wantS 0 L).length → ∃ x3 x2, a3 = some ⟨x3, 0, none⟩ ∧ a2 = some ⟨x2, 0, none⟩ ∧ ∀ j, j < (wantS 0 L).length → w3.cell? ⟨x3, j, none⟩ = some (.int .i64 ((wantS 0 L).getD j 0)) ∧ w3.cell? ⟨x2, j, none⟩ = some (.int .i64 ((wantS 0 L).getD j 0))) := fun hp => by
    obtain ⟨x3, rfl⟩ := hg3 hp
    obtain ⟨x2, rfl⟩ := hg2 hp
    exact ⟨x3, x2, rfl, rfl, fun j hj => ⟨ints_row hgo j hj, ints_row hwv3 j hj⟩⟩
  clear hG f1 f2 f3 f4 hbel2 hwv3 hgo hg3 hg2 hg1 Hwv Hsv HSm hbel
  generalize (wantS 0 L).length = N at *
  generalize hzs : (fun j => (wantS 0 L).getD j 0) = zs at *
  have hNN : ((N : Int) != N) = false := by simp
  go_wp2
  go_loopw [6] (fun i wr => ∃ (k q : Nat), k ≤ N ∧ i = .int .i64 k ∧ wr = w3.drewN q) (fun i _ => N - (intOf i).toNat)
  case atStart => exact ⟨0, 0, Nat.zero_le _, rfl, rfl⟩
  case round =>
    obtain ⟨k, q, hkN, rfl, rfl⟩ := hrel
    by_cases hlt : k < N
    · have hlt' : (k : Int) < N := by omega
      obtain ⟨x3, x2, e3, e2, hcs⟩ := HR3.out (by omega)
      subst e3
      subst e2
      obtain ⟨k3, k2⟩ := hcs k hlt
      generalize (wantS 0 L).getD k 0 = z at *
      have hne : (z != z) = false := by simp
      clear hcs
      go_wp2
      go_quiet (fail)
      go_wp2
      go_roundw
      case rel => exact ⟨k + 1, _, by omega, by go_num, rfl⟩
      case measure => simp [intOf]; omega
    · have hlt' : ¬ (k : Int) < N := by omega
      go_wp2
      go_ret
      exact ⟨rfl, below_drewN hbel3 _⟩

end Go.Proofs.Ybulkuws.SpansLaw
