import Derived.Test.YbulkuwsSpanIter13
import Derived.Test.YbulkuwsSpansLaw
namespace Go.Proofs.Ybulkuws.StopsLaw
open Go.RowKit SpanPlain SpanUv SpanAdd SpanMerge SpanBuild SpanIter SpanIter13 SpansLaw

/-- Behind k yields: the count stands at k; no other block has turned. -/
structure Cnt (w2 : World) (CB k : Nat) (w : World) : Prop where
  val : w.cell? ⟨CB, 0, none⟩ = some (.int .i64 (k : Nat))
  frz : w.frozen? ⟨CB, 0, none⟩ = false
  os : w.os = w2.os
  tape : w.tape = w2.tape
  output : w.output = w2.output
  size : w.heap.size = w2.heap.size
  block : ∀ b, b ≠ CB → w.heap[b]? = w2.heap[b]?

theorem Cnt.cell {w2 w : World} {CB k : Nat} (h : Cnt w2 CB k w) {b o : Nat} (hb : b ≠ CB) : w.cell? ⟨b, o, none⟩ = w2.cell? ⟨b, o, none⟩ := World.cell?_of_block (w := w2) (h.block b hb)

theorem cnt_step {w2 w : World} {CB k : Nat} (h : Cnt w2 CB k w) : Cnt w2 CB (k + 1) (w.setCell ⟨CB, 0, none⟩ (.int .i64 ((k + 1 : Nat) : Int))) := by
  obtain ⟨h1, h2, h3, h4, h5, h6, h7⟩ := h
  refine ⟨World.cell?_setCell_same _ _ _ h1, by simpa using h2, h3, h4, h5, by simpa [World.setCell] using h6, fun b hb => ?_⟩
  rw [Below.heap_setCell _ _ _ _ hb]
  exact h7 b hb

set_option maxRecDepth 100000 in
set_option maxHeartbeats 1000000 in
theorem yield13 (w2 : World) (CB TB WB OB LB g : Nat) (m lim N cap k : Nat) (x y : Int) (w : World) (h : Cnt w2 CB k w) (hk : k < m) (hm : m ≤ 1024) (_hl : lim ≤ 2000) (hN : N = 2 * m)
    (hT : w2.cell? ⟨TB, 0, none⟩ = some (.int .i64 (m : Nat))) (hL : w2.cell? ⟨LB, 0, none⟩ = some (.int .i64 (lim : Nat))) (hW : w2.cell? ⟨WB, 0, none⟩ = some (.slice (some ⟨g, 0, none⟩) N cap))
    (hx : w2.cell? ⟨g, 2 * k, none⟩ = some (.int .i64 x)) (hy : w2.cell? ⟨g, 2 * k + 1, none⟩ = some (.int .i64 y)) (hTB : TB ≠ CB) (hLB : LB ≠ CB) (hWB : WB ≠ CB) (hgB : g ≠ CB) :
    Calls Yba.prog 13 #[.int .i64 x, .int .i64 y, .pointer (some ⟨CB, 0, none⟩), .pointer (some ⟨TB, 0, none⟩), .pointer (some ⟨WB, 0, none⟩), .pointer (some ⟨OB, 0, none⟩), .pointer (some ⟨LB, 0, none⟩)] w
      fun e w' => e = .returned (.bool (decide (k + 1 < lim))) ∧ Cnt w2 CB (k + 1) w' := by
  have c0 := h.val
  have f0 := h.frz
  have cT : w.cell? ⟨TB, 0, none⟩ = some (.int .i64 (m : Nat)) := by rw [h.cell hTB]; exact hT
  have cL : w.cell? ⟨LB, 0, none⟩ = some (.int .i64 (lim : Nat)) := by rw [h.cell hLB]; exact hL
  have cW : w.cell? ⟨WB, 0, none⟩ = some (.slice (some ⟨g, 0, none⟩) N cap) := by rw [h.cell hWB]; exact hW
  have cx : w.cell? ⟨g, 2 * k, none⟩ = some (.int .i64 x) := by rw [h.cell hgB]; exact hx
  have cy : w.cell? ⟨g, 2 * k + 1, none⟩ = some (.int .i64 y) := by rw [h.cell hgB]; exact hy
  have HC : Hid (Cnt w2 CB (k + 1) (w.setCell ⟨CB, 0, none⟩ (.int .i64 ((k + 1 : Nat) : Int)))) := cnt_step h
  have hg : ¬ (m : Int) ≤ k := by omega
  have nx : (x != x) = false := by simp
  have ny : (y != y) = false := by simp
  have hi1 : (2 : Int) * k < N := by omega
  have hi2 : (2 : Int) * k + 1 < N := by omega
  have hLB' : ¬ CB = LB := fun e => hLB e.symm
  have hlb2 : ¬ LB = CB := hLB
  clear h hT hL hW hx hy hN
  go_enter Yba.func13, Yba.ntmps13
  go_wp2
  go_ret
  have e1 : decide ((k : Int) + 1 < (lim : Int)) = decide (k + 1 < lim) := decide_eq_decide.2 (by omega)
  exact ⟨congrArg (fun b => Ending.returned (Value.bool b)) e1, HC.out⟩

set_option maxHeartbeats 400000 in
theorem walk_long (a0 : Option Addr) (len cap : Nat) (x : Int) (w : World) (h : 1024 < len) :
    Calls Yba.prog 4 #[.slice a0 len cap, .int .u8 x] w fun e w' => e = .returned (.bool true) ∧ Below w.heap.size w w' := by
  have h' : (1024 : Int) < (len : Int) := by omega
  go_enter Yba.func4, Yba.ntmps4
  go_wp2
  go_ret
  exact ⟨rfl, Below.refl _ _⟩

theorem want_get (L : List (Int × Nat)) (k : Nat) (hk : k < L.length) : (wantS 0 L).getD (2 * k) 0 = startOf L k ∧ (wantS 0 L).getD (2 * k + 1) 0 = stopOf L k := by
  have e : wantS 0 L = wantS 0 (L.take k) ++ (startOf L k :: stopOf L k :: wantS (endS 0 (L.take (k + 1))) (L.drop (k + 1))) := by
    have h := wantS_append 0 (L.take (k + 1)) (L.drop (k + 1))
    rw [List.take_append_drop, want_take L k hk] at h
    simpa using h
  have hl : (wantS 0 (L.take k)).length = 2 * k := by rw [wantS_length]; simp; omega
  rw [e]
  constructor
  · rw [List.getD_eq_getElem?_getD, List.getElem?_append_right (by omega), hl, Nat.sub_self]
    rfl
  · rw [List.getD_eq_getElem?_getD, List.getElem?_append_right (by omega), hl, show 2 * k + 1 - 2 * k = 1 by omega]
    rfl

/-- The world at the iterator's call: seven blocks more. -/
def atStop (w1 : World) (A : Array Value) (wv : Value) (m lim : Nat) : World :=
  ((((((w1.alloc (.cells A 25)).alloc (.cells #[wv] 26)).alloc (.cells #[.int .i64 (m : Nat)] 3)).alloc (.cells #[.int .i64 (lim : Nat)] 3)).alloc (.cells #[.int .i64 0] 3)).alloc (.cells #[.bool true] 4)).alloc (.cells A 25)

theorem stop_facts {w1 : World} {A : Array Value} {wv : Value} {m lim : Nat} :
    (∀ i, (atStop w1 A wv m lim).cell? ⟨w1.heap.size + 1 + 1 + 1 + 1 + 1 + 1, i, none⟩ = A[i]?) ∧ (atStop w1 A wv m lim).cell? ⟨w1.heap.size + 1, 0, none⟩ = some wv ∧
    (atStop w1 A wv m lim).cell? ⟨w1.heap.size + 1 + 1, 0, none⟩ = some (.int .i64 (m : Nat)) ∧ (atStop w1 A wv m lim).cell? ⟨w1.heap.size + 1 + 1 + 1, 0, none⟩ = some (.int .i64 (lim : Nat)) ∧
    (atStop w1 A wv m lim).cell? ⟨w1.heap.size + 1 + 1 + 1 + 1 + 1, 0, none⟩ = some (.bool true) ∧
    Cnt (atStop w1 A wv m lim) (w1.heap.size + 1 + 1 + 1 + 1) 0 (atStop w1 A wv m lim) ∧ Below w1.heap.size w1 (atStop w1 A wv m lim) := by
  unfold atStop
  refine ⟨fun i => ?_, ?_, ?_, ?_, ?_, ⟨?_, ?_, rfl, rfl, rfl, rfl, fun _ _ => rfl⟩, ?_⟩
  · rw [World.cell?_alloc_at _ _ _ _ (by simp)]
  · rw [World.cell?_alloc_past _ _ _ (by simp; try omega), World.cell?_alloc_past _ _ _ (by simp; try omega), World.cell?_alloc_past _ _ _ (by simp; try omega), World.cell?_alloc_past _ _ _ (by simp; try omega), World.cell?_alloc_past _ _ _ (by simp; try omega), World.cell?_alloc_at _ _ _ _ (by simp)]; rfl
  · rw [World.cell?_alloc_past _ _ _ (by simp; try omega), World.cell?_alloc_past _ _ _ (by simp; try omega), World.cell?_alloc_past _ _ _ (by simp; try omega), World.cell?_alloc_past _ _ _ (by simp; try omega), World.cell?_alloc_at _ _ _ _ (by simp)]; rfl
  · rw [World.cell?_alloc_past _ _ _ (by simp; try omega), World.cell?_alloc_past _ _ _ (by simp; try omega), World.cell?_alloc_past _ _ _ (by simp; try omega), World.cell?_alloc_at _ _ _ _ (by simp)]; rfl
  · rw [World.cell?_alloc_past _ _ _ (by simp; try omega), World.cell?_alloc_at _ _ _ _ (by simp)]; rfl
  · rw [World.cell?_alloc_past _ _ _ (by simp; try omega), World.cell?_alloc_past _ _ _ (by simp; try omega), World.cell?_alloc_at _ _ _ _ (by simp)]; rfl
  · rw [World.frozen?_alloc_past _ _ _ (by simp; try omega), World.frozen?_alloc_past _ _ _ (by simp; try omega), World.frozen?_alloc_at _ _ _ _ (by simp)]
  · exact (((((((Below.refl _ _).alloc (Nat.le_refl _) _).alloc (by simp) _).alloc (by simp; omega) _).alloc (by simp; omega) _).alloc (by simp; omega) _).alloc (by simp; omega) _).alloc (by simp; omega) _

/-- The whole iteration that stops at the limit. -/
theorem counts (w1 : World) (base n : Nat) (L : List (Int × Nat)) (a1 a2 : Option Addr) (c1 c2 N m lim : Nat) (y1 y2 : Value) (hSm : Small n L) (hn : n ≤ 1024) (hc1 : (encS L).length ≤ c1) (hg1 : 0 < (encS L).length → ∃ g, a1 = some ⟨g, 0, none⟩)
    (hsv : w1.ownsRow base 5 1 (.slice a1 (encS L).length c1) (encS L).length (Lib.byteCells (encS L))) (hN : (wantS 0 L).length = N) (hg2 : 0 < N → ∃ g, a2 = some ⟨g, 0, none⟩)
    (hwv : w1.ownsRow base 2 1 (.slice a2 N c2) N ((wantS 0 L).map (Value.int .i64))) (hm : L.length = m) (hN2 : N = 2 * m) (hlim : 1 ≤ lim ∧ lim ≤ m + 1) :
    Calls Yba.prog 19 #[.func (.func 13) #[] #[.pointer (some ⟨w1.heap.size + 1 + 1 + 1 + 1, 0, none⟩), .pointer (some ⟨w1.heap.size + 1 + 1, 0, none⟩), .pointer (some ⟨w1.heap.size + 1, 0, none⟩), .pointer (some ⟨w1.heap.size + 1 + 1 + 1 + 1 + 1, 0, none⟩), .pointer (some ⟨w1.heap.size + 1 + 1 + 1, 0, none⟩)],
        .pointer (some ⟨w1.heap.size + 1 + 1 + 1 + 1 + 1 + 1, 0, none⟩)] (atStop w1 #[.slice a1 (encS L).length c1, y1, y2] (.slice a2 N c2) m lim)
      fun e w' => e = .returned (.tuple #[]) ∧ ∃ k, Cnt (atStop w1 #[.slice a1 (encS L).length c1, y1, y2] (.slice a2 N c2) m lim) (w1.heap.size + 1 + 1 + 1 + 1) k w' ∧ (lim ≤ m → k = lim) ∧ (m < lim → k = m) := by
  obtain ⟨f1, f2, f3, f4, f5, f6, f7⟩ := stop_facts (w1 := w1) (A := #[.slice a1 (encS L).length c1, y1, y2]) (wv := .slice a2 N c2) (m := m) (lim := lim)
  generalize hw2 : atStop w1 #[.slice a1 (encS L).length c1, y1, y2] (.slice a2 N c2) m lim = w2 at *
  obtain ⟨g, hg⟩ : ∃ g, L ≠ [] → a1 = some ⟨g, 0, none⟩ := by
    by_cases hL : L = []
    · exact ⟨0, fun h => absurd hL h⟩
    · obtain ⟨g, hg⟩ := hg1 (encS_pos L hL)
      exact ⟨g, fun _ => hg⟩
  have hm24 : m ≤ 1024 := by have := hSm.len; omega
  refine (iter13 (w1.heap.size + 1 + 1 + 1 + 1) (w1.heap.size + 1 + 1) (w1.heap.size + 1) (w1.heap.size + 1 + 1 + 1 + 1 + 1) (w1.heap.size + 1 + 1 + 1) (w1.heap.size + 1 + 1 + 1 + 1 + 1 + 1) g c1 a1 L
    (fun k wx => Cnt w2 (w1.heap.size + 1 + 1 + 1 + 1) k wx) (fun k => decide (k + 1 < lim)) w2 (small_mono hSm hn) f6 hg ?_ hc1 (f1 0) ?_).mono ?_
  · intro k wx hJ j hj
    have hL : L ≠ [] := by rintro rfl; simp [encS] at hj
    obtain rfl := hg hL
    have hgl := (hsv.lt g rfl).2
    rw [hJ.cell (by omega), f7.cell (by simpa using hgl)]
    exact bytes_row hsv j hj
  · intro k hk wx hJ
    obtain ⟨g2, rfl⟩ := hg2 (by omega)
    have hgl := (hwv.lt g2 rfl).2
    obtain ⟨e1, e2⟩ := want_get L k hk
    have r1 := ints_row hwv (2 * k) (by omega)
    have r2 := ints_row hwv (2 * k + 1) (by omega)
    rw [e1] at r1
    rw [e2] at r2
    exact yield13 w2 _ _ _ _ _ g2 m lim N c2 k _ _ wx hJ (by omega) hm24 (by omega) hN2 f3 f4 f2 (by rw [f7.cell (by simpa using hgl)]; exact r1) (by rw [f7.cell (by simpa using hgl)]; exact r2) (by omega) (by omega) (by omega) (by omega)
  · rintro e w' ⟨rfl, k, hk, hJ, hall, h⟩
    refine ⟨rfl, k, hJ, ?_⟩
    have hb : ∀ i, i + 1 < k → i + 1 < lim := fun i hi => by simpa using hall i hi
    have hb2 : k ≤ lim := by
      rcases Nat.lt_or_ge k 2 with h2 | h2
      · omega
      · have := hb (k - 2) (by omega)
        omega
    rcases h with h | ⟨i, hi, h⟩
    · exact ⟨fun h3 => by omega, fun h3 => by omega⟩
    · simp at h
      exact ⟨fun h3 => by omega, fun h3 => by omega⟩

set_option maxRecDepth 100000 in
set_option maxHeartbeats 2000000 in
theorem walk_short (a0 : Option Addr) (n cap : Nat) (gp : Nat → Int) (sz : Nat → Nat) (x : Int) (w : World) (hn : n ≤ 1024) (hx0 : 0 ≤ x) (hx1 : x ≤ 255) (hb : ∀ i, i < n → -32768 ≤ gp i ∧ gp i ≤ 32767 ∧ sz i ≤ 65535)
    (hsrc : 0 < n → ∃ b off : Nat, a0 = some ⟨b, off, none⟩ ∧ b < w.heap.size ∧ ∀ j, j < n → w.cell? ⟨b, off + j * 2, none⟩ = some (.int .i16 (gp j)) ∧ w.cell? ⟨b, off + j * 2 + 1, none⟩ = some (.int .u16 (sz j : Nat))) :
    Calls Yba.prog 4 #[.slice a0 n cap, .int .u8 x] w fun e w' => e = .returned (.bool true) ∧ Below w.heap.size w w' := by
  have h' : ¬ (1024 : Int) < (n : Int) := by omega
  have hSm := small_run gp sz n hb
  go_enter Yba.func4, Yba.ntmps4
  go_wp2_with fail
  refine (build a0 n cap gp sz w hn hb hsrc).mono ?_
  rintro e w1 ⟨sv, wv, rfl, hsv, hwv, hbel⟩
  clear hb hsrc
  generalize runS (stepsTo gp sz n) = L at *
  obtain ⟨a1, c1, hsv', hc1, hg1⟩ := own_shape hsv
  obtain ⟨a2, c2, hwv', hc2, hg2⟩ := own_shape hwv
  subst hsv'
  subst hwv'
  have Hsv : Hid (w1.ownsRow (w.heap.size + 2) 5 1 (.slice a1 (encS L).length c1) (encS L).length (Lib.byteCells (encS L))) := hsv
  have Hwv : Hid (w1.ownsRow (w.heap.size + 2) 2 1 (.slice a2 (wantS 0 L).length c2) (wantS 0 L).length ((wantS 0 L).map (Value.int .i64))) := hwv
  have HSm : Hid (Small n L) := hSm
  have hll := wantS_length 0 L
  have hLm : L.length ≤ 1024 := by have := hSm.len; omega
  obtain ⟨m, hm⟩ : ∃ m, L.length = m := ⟨_, rfl⟩
  rw [hm] at hll hLm
  generalize hN : (wantS 0 L).length = N at *
  have hq : (N : Int) / 2 = m := by omega
  have Hm : Hid (L.length = m) := hm
  have HN : Hid ((wantS 0 L).length = N) := hN
  have HN2 : Hid (N = 2 * m) := hll
  have hNl : N ≤ 2048 := by omega
  obtain ⟨lim, hlim⟩ : ∃ lim : Nat, x % ((m : Int) + 1) + 1 = lim := ⟨(x % ((m : Int) + 1) + 1).toNat, by have := Int.emod_nonneg x (show (m : Int) + 1 ≠ 0 by omega); omega⟩
  have hlim1 : 1 ≤ lim ∧ lim ≤ m + 1 := by
    have h1 := Int.emod_nonneg x (show (m : Int) + 1 ≠ 0 by omega)
    have h2 := Int.emod_lt_of_pos x (show 0 < (m : Int) + 1 by omega)
    omega
  have hm0 : (0 : Int) < (m : Int) + 1 := by omega
  clear hsv hwv hSm hm hN hll
  go_wp2_with (go_at_call 11; go_in)
  refine (counts w1 (w.heap.size + 2) n L a1 a2 c1 c2 N m lim (.int .i64 (endS 0 L)) (.int .i64 (lastS L : Nat)) HSm.out hn hc1 hg1 Hsv.out HN.out hg2 Hwv.out Hm.out HN2.out hlim1).mono ?_
  rintro e w3 ⟨rfl, k, hC, hk1, hk2⟩
  obtain ⟨f1, f2, f3, f4, f5, f6, f7⟩ := stop_facts (w1 := w1) (A := #[.slice a1 (encS L).length c1, .int .i64 (endS 0 L), .int .i64 (lastS L : Nat)]) (wv := .slice a2 N c2) (m := m) (lim := lim)
  generalize atStop w1 #[.slice a1 (encS L).length c1, .int .i64 (endS 0 L), .int .i64 (lastS L : Nat)] (.slice a2 N c2) m lim = w2 at *
  have q1 := hC.val
  have q2 : w3.cell? ⟨w1.heap.size + 1 + 1, 0, none⟩ = some (.int .i64 (m : Nat)) := by rw [hC.cell (by omega)]; exact f3
  have q3 : w3.cell? ⟨w1.heap.size + 1 + 1 + 1, 0, none⟩ = some (.int .i64 (lim : Nat)) := by rw [hC.cell (by omega)]; exact f4
  have q4 : w3.cell? ⟨w1.heap.size + 1 + 1 + 1 + 1 + 1, 0, none⟩ = some (.bool true) := by rw [hC.cell (by omega)]; exact f5
  have hfin : Below w.heap.size w w3 := by
    have h1 := hbel.trans (f7.mono hbel.size)
    refine ⟨hC.os.trans h1.os, hC.tape.trans h1.tape, hC.output.trans h1.output, by have := h1.size; have := hC.size; omega, fun b hb => ?_⟩
    rw [hC.block b (by have := hbel.size; omega)]
    exact h1.block b hb
  clear f1 f2 f3 f4 f5 f6 f7 hC Hsv Hwv HSm hg1 hg2 hlim hq
  by_cases hml : m < lim
  · have hml' : (m : Int) < lim := by omega
    obtain rfl := hk2 hml
    have hkk : ((k : Int) == k) = true := by simp
    clear hk1 hk2
    go_wp2
    go_ret
    exact ⟨by simp, hfin⟩
  · have hml' : ¬ (m : Int) < lim := by omega
    obtain rfl := hk1 (by omega)
    have hkk : ((k : Int) == k) = true := by simp
    clear hk1 hk2
    go_wp2
    go_ret
    exact ⟨by simp, hfin⟩

end Go.Proofs.Ybulkuws.StopsLaw
