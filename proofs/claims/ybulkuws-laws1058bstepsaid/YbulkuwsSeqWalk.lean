import Derived.Test.YbulkuwsDec
import Derived.Laws.CopyOwn
namespace Go.Proofs.Ybulkuws.SeqWalk
open Go.RowKit

theorem info5 : (Yba.prog.info? 5).map (fun i => (i.zero, i.size, i.bytes)) = some (some (.int .u8 0), 1, 1) := by kernel_rfl
theorem size5 : (Yba.prog.info? 5).map (·.size) = some 1 := by kernel_rfl

/-- What holds of the decoder at block D behind k reads, its bytes in block g. -/
structure Inv (w0 : World) (g D len : Nat) (zs : List Int) (k : Nat) (w : World) : Prop where
  b : ∃ a, w.cell? ⟨D, 0, none⟩ = some (.slice a (len - k) (len - k)) ∧ (k < len → a = some ⟨g, k, none⟩)
  ok : w.cell? ⟨D, 6, none⟩ = some (.bool (decide (k ≤ len)))
  short : w.cell? ⟨D, 7, none⟩ = some (.bool (decide (len < k)))
  f0 : w.frozen? ⟨D, 0, none⟩ = false
  f6 : w.frozen? ⟨D, 6, none⟩ = false
  f7 : w.frozen? ⟨D, 7, none⟩ = false
  row : ∀ j, j < len → w.cell? ⟨g, j, none⟩ = some (.int .u8 (zs.getD j 0))
  bel : Below w0.heap.size w0 w
  gD : g < D
  g0 : w0.heap.size ≤ g

set_option maxHeartbeats 400000 in
theorem walk_long (a0 : Option Addr) (len cap : Nat) (x : Int) (w : World) (h : 1024 < len) :
    Calls Yba.prog 6 #[.slice a0 len cap, .int .u8 x] w fun e w' => e = .returned (.bool true) ∧ Below w.heap.size w w' := by
  have h' : (1024 : Int) < (len : Int) := by omega
  go_enter Yba.func6, Yba.ntmps6
  go_wp2
  go_ret
  exact ⟨rfl, Below.refl _ _⟩

theorem own_cur {w : World} {base e n : Nat} {g cap : Nat} {xs : List Value} (h : w.ownsRow base e 1 (.slice (some ⟨g, 0, none⟩) n cap) n xs) (hc : cap = n) :
    ∃ cur : List Value, cur.length = n ∧ Hid (w.heap[g]? = some (.cells cur.toArray e (0, 0))) := by
  obtain ⟨hl, h2⟩ := h
  rcases h2 with ⟨h2, _⟩ | ⟨g', cap', cur, hv, hg, hh, _, _, hs, ht⟩
  · simp at h2
  · simp at hv
    obtain ⟨rfl, rfl⟩ := hv
    exact ⟨cur.toList, by simp; omega, show _ = _ by simp [hh]⟩

theorem inv_start {w w2 : World} {len : Nat} {zs : List Int} {cur cs : List Value} (hzl : zs.length = len) (hcs : cs = zs.map (Value.int .u8)) (hcur : cur.length = len)
    (HG : w2.heap[w.heap.size]? = some (.cells (splice cur 0 cs).toArray 5 (0, 0))) (hB : Below w.heap.size w w2) :
    Inv w w.heap.size w2.heap.size len zs 0 (w2.alloc (.cells #[.slice (some ⟨w.heap.size, 0, none⟩) len len, .int .u8 0, .int .u8 0, .bool false, .bool false, .pointer none, .bool true, .bool false] 41)) := by
  have hlt : w.heap.size < w2.heap.size := (Array.getElem?_eq_some_iff.1 HG).1
  have hsp : splice cur 0 cs = cs := by
    subst hcs
    simp [splice, hzl, hcur]
  rw [hsp] at HG
  refine ⟨⟨_, by simp, fun _ => rfl⟩, by simp, by simp, by simp, by simp, by simp, ?_, hB.alloc (by omega) _, hlt, Nat.le_refl _⟩
  intro j hj
  rw [World.cell?_alloc_past _ _ _ (by simpa using hlt), cell_of_row w2 _ j _ 5 (0, 0) HG, hcs]
  simp [List.getElem?_eq_getElem (l := zs) (i := j) (by omega)]

theorem cs_same {w : World} {a : Addr} {u v : Value} (h : w.cell? a = some u) : (w.setCell a v).cell? a = some v := World.cell?_setCell_same _ _ _ h
theorem cs_other {w : World} {a b : Addr} {v : Value} (h : a ≠ b) : (w.setCell a v).cell? b = w.cell? b := World.cell?_setCell_other _ _ _ _ h

theorem inv_byte {w0 w : World} {g D len k n : Nat} {zs : List Int} (h : Inv w0 g D len zs k w) (hk : k < len) (hn : len - k = n + 1) {a : Option Addr} (ha : 1 < n + 1 → a = some ⟨g, k + 1, none⟩) :
    Inv w0 g D len zs (k + 1) (w.setCell ⟨D, 0, none⟩ (.slice a n (n + 1 - 1))) := by
  obtain ⟨⟨a', hb, _⟩, h2, h3, h4, h5, h6, h7, h8, h9, h10⟩ := h
  have e1 : decide (k + 1 ≤ len) = decide (k ≤ len) := by simp; omega
  have e2 : decide (len < k + 1) = decide (len < k) := by simp; omega
  have e3 : len - (k + 1) = n := by omega
  refine ⟨⟨a, ?_, fun hl => ha (by omega)⟩, ?_, ?_, ?_, ?_, ?_, fun j hj => ?_, h8.setCell (by simp; omega) _, h9, h10⟩
  · rw [cs_same hb, e3]; rfl
  · rw [cs_other (by simp), e1]; exact h2
  · rw [cs_other (by simp), e2]; exact h3
  · simpa using h4
  · simpa using h5
  · simpa using h6
  · rw [cs_other (by intro e; cases e; omega)]; exact h7 j hj

theorem inv_end {w0 w : World} {g D len : Nat} {zs : List Int} (h : Inv w0 g D len zs len w) :
    Inv w0 g D len zs (len + 1) ((w.setCell ⟨D, 6, none⟩ (.bool false)).setCell ⟨D, 7, none⟩ (.bool true)) := by
  obtain ⟨⟨a', hb, _⟩, h2, h3, h4, h5, h6, h7, h8, h9, h10⟩ := h
  have h3' : (w.setCell ⟨D, 6, none⟩ (.bool false)).cell? ⟨D, 7, none⟩ = some (.bool (decide (len < len))) := by
    rw [cs_other (by simp)]; exact h3
  refine ⟨⟨a', ?_, fun hl => by omega⟩, ?_, ?_, ?_, ?_, ?_, fun j hj => ?_, (h8.setCell (by simp; omega) _).setCell (by simp; omega) _, h9, h10⟩
  · rw [cs_other (by simp), cs_other (by simp), hb]; simp
  · rw [cs_other (by simp), cs_same h2]; simp
  · rw [cs_same h3']; simp
  · simpa using h4
  · simpa using h5
  · simpa using h6
  · rw [cs_other (by intro e; cases e; omega), cs_other (by intro e; cases e; omega)]; exact h7 j hj

theorem inv_dead {w0 w : World} {g D len k : Nat} {zs : List Int} (h : Inv w0 g D len zs k w) (hk : len < k) : Inv w0 g D len zs (k + 1) w := by
  obtain ⟨⟨a', hb, _⟩, h2, h3, h4, h5, h6, h7, h8, h9, h10⟩ := h
  refine ⟨⟨a', ?_, fun hl => by omega⟩, ?_, ?_, h4, h5, h6, h7, h8, h9, h10⟩
  · rw [hb, show len - k = 0 by omega, show len - (k + 1) = 0 by omega]
  · rw [h2]; simp; omega
  · rw [h3]; simp; omega

set_option maxRecDepth 100000 in
set_option maxHeartbeats 1000000 in
theorem walk_short (a0 : Option Addr) (len cap : Nat) (zs : List Int) (x : Int) (w : World) (h : len ≤ 1024) (hx0 : 0 ≤ x) (hx1 : x ≤ 255) (hzl : zs.length = len)
    (hsrc : 0 < len → ∃ b off : Nat, a0 = some ⟨b, off, none⟩ ∧ b < w.heap.size ∧ ∀ j, j < len → w.cell? ⟨b, off + j, none⟩ = some (.int .u8 (zs.getD j 0))) :
    Calls Yba.prog 6 #[.slice a0 len cap, .int .u8 x] w fun e w' => e = .returned (.bool true) ∧ Below w.heap.size w w' := by
  have h' : ¬ (1024 : Int) < (len : Int) := by omega
  obtain ⟨i0, hi, hz0, hz1, hz2⟩ := info_parts info5
  obtain ⟨cs, hcs⟩ : ∃ cs, cs = zs.map (Value.int .u8) := ⟨_, rfl⟩
  have hcl : cs.length = len := by simp [hcs, hzl]
  have Hcs : Hid (cs = zs.map (Value.int .u8)) := hcs
  clear hcs
  go_enter Yba.func6, Yba.ntmps6
  go_wp2_with (at_make; refine wpList_make_full _ rfl _ _ 23 rfl w.heap.size 5 i0 (.int .u8 0) 1 Yba.underlying23 hi hz0 hz1 _ _ _ _ len rfl rfl rfl rfl (by rw [hz2]; omega) (by unfold maxLen; omega) (by omega) ?_)
  intro w1 hown hgrow
  obtain ⟨cur, hcurl, H1⟩ := own_cur hown rfl
  have hb1 := (Below.refl w.heap.size w).grown hgrow (Nat.le_refl _) (by simp)
  clear hown hgrow
  go_wp2_with (refine wpList_copy_splice rfl (.tmp 17) (.tmp 18) 23 23 rfl 5 Yba.underlying23 size5 _ _ _ _ _ _ rfl rfl w.heap.size 0 _ 5 H1.out cs ?cn ?cp ?cf ?c1 w.heap.size w hb1 (Nat.le_refl _) ?_)
  case cn => simp [hcl]
  case cp =>
    intro hp
    obtain ⟨b, off, had, hlt, hc⟩ := hsrc (by omega)
    refine ⟨_, had, fun j v hj => ?_⟩
    have hjl := (List.getElem?_eq_some_iff.1 hj).1
    rw [Addr.add_lit, hb1.cell (by simpa using hlt), hc j (by omega)]
    rw [Hcs.out] at hj
    simp [List.getElem?_map] at hj
    obtain ⟨y, hy, rfl⟩ := hj
    simp [hy]
  case cf => omega
  case c1 => rw [Hcs.out]; exact ints_oneCell _ _
  intro w2 HG2 hB2
  have I0 := inv_start hzl Hcs.out hcurl HG2.out hB2
  clear HG2 hB2 H1 hb1 Hcs hcl hcurl hi hz0 hz1 hz2
  go_wp2
  go_loopw [8] (fun i wr => ∃ k : Nat, (k : Int) ≤ len + x % 4 ∧ i = .int .i64 k ∧ Inv w w.heap.size w2.heap.size len zs k wr) (fun i _ => ((len : Int) + x % 4 - intOf i).toNat)
  case atStart => exact ⟨0, by omega, rfl, I0⟩
  case round =>
    obtain ⟨k, hk, rfl, hI⟩ := hrel
    clear I0
    generalize w2.heap.size = D at *
    by_cases hlt : k < len
    · obtain ⟨a, hb, ha⟩ := hI.b
      obtain rfl := ha hlt
      obtain ⟨n, hn⟩ : ∃ n, len - k = n + 1 := ⟨len - k - 1, by omega⟩
      rw [hn] at hb
      have hok : wr.cell? ⟨D, 6, none⟩ = some (.bool true) := by rw [hI.ok]; simp; omega
      have hrow := hI.row k hlt
      obtain ⟨b, off, rfl, hbl, hc⟩ := hsrc (by omega)
      have hck : wr.cell? ⟨b, off + k, none⟩ = some (.int .u8 (zs.getD k 0)) := by rw [hI.bel.cell hbl]; exact hc k hlt
      have hgD := hI.gD
      have hbD : ¬ D = b := by omega
      have hlt' : (k : Int) < len := by omega
      have hlt2 : (k : Int) < len + x % 4 := by omega
      have hn1 : n + 1 ≤ 1024 := by omega
      have Hn : Hid (len - k = n + 1) := hn
      clear hsrc hc hn hbl ha
      generalize zs.getD k 0 = y at *
      go_wp2_with (go_at_call 14; go_must (refine (Dec.u8_byte D w.heap.size k n (n + 1) y wr (Nat.le_refl _) (by omega) hb hok hI.f0 hrow (by omega)).mono ?_; rintro e w' ⟨rfl, a, ha, rfl⟩))
      go_roundw
      case rel => exact ⟨k + 1, by omega, by go_num, inv_byte hI hlt Hn.out ha⟩
      case measure => simp [intOf]; omega
    by_cases hlt2 : (k : Int) < len + x % 4
    · have hge : ¬ (k : Int) < len := by omega
      by_cases heq : k = len
      · subst heq
        obtain ⟨a, hb, ha⟩ := hI.b
        rw [Nat.sub_self] at hb
        have hok : wr.cell? ⟨D, 6, none⟩ = some (.bool true) := by rw [hI.ok]; simp
        have hsh := hI.short
        clear hsrc ha
        go_wp2_with (go_at_call 14; go_must (refine (Dec.u8_end D a 0 _ wr hb hok hsh hI.f6 hI.f7).mono ?_; rintro e w' ⟨rfl, rfl⟩))
        go_roundw
        case rel => exact ⟨k + 1, by omega, by go_num, inv_end hI⟩
        case measure => simp [intOf]; omega
      · have hok : wr.cell? ⟨D, 6, none⟩ = some (.bool false) := by rw [hI.ok]; simp; omega
        clear hsrc
        go_wp2_with (go_at_call 14; go_must (refine (Dec.u8_dead D wr hok).mono ?_; rintro e w' ⟨rfl, rfl⟩))
        go_roundw
        case rel => exact ⟨k + 1, by omega, by go_num, inv_dead hI (by omega)⟩
        case measure => simp [intOf]; omega
    · have hbel := hI.bel
      obtain ⟨a, hb, ha⟩ := hI.b
      by_cases hm : x % 4 = 0
      · have hok : wr.cell? ⟨D, 6, none⟩ = some (.bool true) := by rw [hI.ok]; simp; omega
        have hsh : wr.cell? ⟨D, 7, none⟩ = some (.bool false) := by rw [hI.short]; simp; omega
        rw [show len - k = 0 by omega] at hb
        have e1 : ((len : Int) + x % 4 == len) = true := by simp; omega
        have e2 : ¬ (len : Int) < (len : Int) + x % 4 := by omega
        clear hsrc ha hI
        have Hm : Hid (x % 4 = 0) := hm
        clear hm
        go_wp2
        go_ret
        exact ⟨rfl, hbel⟩
      · have hok : wr.cell? ⟨D, 6, none⟩ = some (.bool false) := by rw [hI.ok]; simp; omega
        have hsh : wr.cell? ⟨D, 7, none⟩ = some (.bool true) := by rw [hI.short]; simp; omega
        rw [show len - k = 0 by omega] at hb
        have e1 : ((len : Int) + x % 4 == len) = false := by simp; omega
        have e2 : (len : Int) < (len : Int) + x % 4 := by omega
        clear hsrc ha hI
        have Hm : Hid (¬ x % 4 = 0) := hm
        clear hm
        go_wp2
        go_ret
        exact ⟨rfl, hbel⟩

end Go.Proofs.Ybulkuws.SeqWalk
