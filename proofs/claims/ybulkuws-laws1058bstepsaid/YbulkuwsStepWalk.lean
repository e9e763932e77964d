import Derived.Test.YbulkuwsSeqWalk
import Derived.Deep.QuietTactic
import Derived.BigQuiet
import Derived.Laws.BytesArg
namespace Go.Proofs.Ybulkuws.StepWalk
open Go.RowKit SeqWalk

theorem conv_zero (w : World) (p : Option Addr) (c : Nat) : (convert 23 9 (.slice p 0 c)).run Yba.prog w = .ok (.string ByteArray.empty) w := by
  rw [run_convert_bytes_string w 23 9 5 _ 0 c Yba.underlying23 Yba.underlying5 Yba.underlying9]
  cases p <;> simp [Conv.bytesToString, loadCells]
  all_goals rfl

theorem conv_row (w : World) (p : Option Addr) (n c : Nat) (ys : List Int) (hl : ys.length = n) (h : 0 < n → ∃ b o, p = some ⟨b, o, none⟩ ∧ ∀ i, i < n → w.cell? ⟨b, o + i, none⟩ = some (.int .u8 (ys.getD i 0))) :
    (convert 23 9 (.slice p n c)).run Yba.prog w = .ok (.string (strOfNums ys)) w := by
  rcases Nat.eq_zero_or_pos n with rfl | hn
  · obtain rfl : ys = [] := List.eq_nil_of_length_eq_zero hl
    exact conv_zero w p c
  · obtain ⟨b, o, rfl, hc⟩ := h hn
    exact run_convert_bytes_arg (P := Yba.prog) w 23 5 Yba.underlying23 Yba.underlying5 b o n c ys hl hc 9 Yba.underlying9

set_option maxHeartbeats 400000 in
/-- bytes.Equal of two slices that hold the same bytes. -/
theorem equal_same (p1 p2 : Option Addr) (n1 c1 n2 c2 : Nat) (s : ByteArray) (w : World) (h1 : (convert 23 9 (.slice p1 n1 c1)).run Yba.prog w = .ok (.string s) w) (h2 : (convert 23 9 (.slice p2 n2 c2)).run Yba.prog w = .ok (.string s) w) :
    Calls Yba.prog 15 #[.slice p1 n1 c1, .slice p2 n2 c2] w fun e w' => e = .returned (.bool true) ∧ w' = w := by
  go_enter Yba.func15, Yba.ntmps15
  go_wp2
  go_ret
  exact ⟨by simp, rfl⟩

set_option maxHeartbeats 400000 in
theorem walk_long (a0 : Option Addr) (len cap : Nat) (ok sh : Bool) (w : World) (h : 1024 < len) :
    Calls Yba.prog 5 #[.slice a0 len cap, .bool ok, .bool sh] w fun e w' => e = .returned (.bool true) ∧ Below w.heap.size w w' := by
  have h' : (1024 : Int) < (len : Int) := by omega
  go_enter Yba.func5, Yba.ntmps5
  go_wp2
  go_ret
  exact ⟨rfl, Below.refl _ _⟩

/-- What holds when the decoder has been made at block D, the copy of the bytes in block g. -/
structure Start (w0 : World) (g D len : Nat) (zs : List Int) (ok sh : Bool) (w : World) : Prop where
  b : w.cell? ⟨D, 0, none⟩ = some (.slice (some ⟨g, 0, none⟩) len len)
  ok : w.cell? ⟨D, 6, none⟩ = some (.bool ok)
  short : w.cell? ⟨D, 7, none⟩ = some (.bool sh)
  f0 : w.frozen? ⟨D, 0, none⟩ = false
  f6 : w.frozen? ⟨D, 6, none⟩ = false
  f7 : w.frozen? ⟨D, 7, none⟩ = false
  row : ∀ j, j < len → w.cell? ⟨g, j, none⟩ = some (.int .u8 (zs.getD j 0))
  bel : Below w0.heap.size w0 w
  gD : g < D
  g0 : w0.heap.size ≤ g

theorem start_of {w w2 : World} {len : Nat} {zs : List Int} {cur cs : List Value} {ok sh : Bool} (hzl : zs.length = len) (hcs : cs = zs.map (Value.int .u8)) (hcur : cur.length = len)
    (HG : w2.heap[w.heap.size]? = some (.cells (splice cur 0 cs).toArray 5 (0, 0))) (hB : Below w.heap.size w w2) :
    Start w w.heap.size w2.heap.size len zs ok sh (w2.alloc (.cells #[.slice (some ⟨w.heap.size, 0, none⟩) len len, .int .u8 0, .int .u8 0, .bool false, .bool false, .pointer none, .bool ok, .bool sh] 41)) := by
  have hlt : w.heap.size < w2.heap.size := (Array.getElem?_eq_some_iff.1 HG).1
  have hsp : splice cur 0 cs = cs := by
    subst hcs
    simp [splice, hzl, hcur]
  rw [hsp] at HG
  refine ⟨by simp, by simp, by simp, by simp, by simp, by simp, ?_, hB.alloc (by omega) _, hlt, Nat.le_refl _⟩
  intro j hj
  rw [World.cell?_alloc_past _ _ _ (by simpa using hlt), cell_of_row w2 _ j _ 5 (0, 0) HG, hcs]
  simp [List.getElem?_eq_getElem (l := zs) (i := j) (by omega)]

set_option maxRecDepth 100000 in
set_option maxHeartbeats 1000000 in
theorem walk_short (a0 : Option Addr) (len cap : Nat) (zs : List Int) (ok sh : Bool) (w : World) (h : len ≤ 1024) (hlc : len ≤ cap) (hzl : zs.length = len)
    (hsrc : 0 < len → ∃ b off : Nat, a0 = some ⟨b, off, none⟩ ∧ b < w.heap.size ∧ ∀ j, j < len → w.cell? ⟨b, off + j, none⟩ = some (.int .u8 (zs.getD j 0))) :
    Calls Yba.prog 5 #[.slice a0 len cap, .bool ok, .bool sh] w fun e w' => e = .returned (.bool true) ∧ Below w.heap.size w w' := by
  have h' : ¬ (1024 : Int) < (len : Int) := by omega
  obtain ⟨i0, hi, hz0, hz1, hz2⟩ := info_parts info5
  obtain ⟨cs, hcs⟩ : ∃ cs, cs = zs.map (Value.int .u8) := ⟨_, rfl⟩
  have hcl : cs.length = len := by simp [hcs, hzl]
  have Hcs : Hid (cs = zs.map (Value.int .u8)) := hcs
  clear hcs
  go_enter Yba.func5, Yba.ntmps5
  go_wp2_with (at_make; refine wpList_make_full _ rfl _ _ 23 rfl w.heap.size 5 i0 (.int .u8 0) 1 Yba.underlying23 hi hz0 hz1 _ _ _ _ len rfl rfl rfl rfl (by rw [hz2]; omega) (by unfold maxLen; omega) (by omega) ?_)
  intro w1 hown hgrow
  obtain ⟨cur, hcurl, H1⟩ := own_cur hown rfl
  have hb1 := (Below.refl w.heap.size w).grown hgrow (Nat.le_refl _) (by simp)
  clear hown hgrow
  go_wp2_with (refine wpList_copy_splice rfl (.tmp 16) (.tmp 17) 23 23 rfl 5 Yba.underlying23 size5 _ _ _ _ _ _ rfl rfl w.heap.size 0 _ 5 H1.out cs ?cn ?cp ?cf ?c1 w.heap.size w hb1 (Nat.le_refl _) ?_)
  case cn => simp [hcl]
  case cp =>
    intro hp
    obtain ⟨b, off, had, hlt, hc⟩ := hsrc (by omega)
    refine ⟨_, had, fun j v hj => ?_⟩
    have hjl := (List.getElem?_eq_some_iff.1 hj).1
    rw [Addr.add_lit, hb1.cell (by simpa using hlt), hc j (by omega)]
    rw [Hcs.out] at hj
    simp [List.getElem?_map] at hj
    obtain ⟨y, hy, rfl⟩ := hj
    simp [hy]
  case cf => omega
  case c1 => rw [Hcs.out]; exact ints_oneCell _ _
  intro w2 HG2 hB2
  have I0 := start_of (ok := ok) (sh := sh) hzl Hcs.out hcurl HG2.out hB2
  clear HG2 hB2 H1 hb1 Hcs hcl hcurl hi hz0 hz1 hz2
  go_wp2_with fail
  generalize w2.alloc (.cells #[.slice (some ⟨w.heap.size, 0, none⟩) len len, .int .u8 0, .int .u8 0, .bool false, .bool false, .pointer none, .bool ok, .bool sh] 41) = wD at I0 ⊢
  generalize w2.heap.size = D at I0 ⊢
  have hb := I0.b
  have hok := I0.ok
  have hsh := I0.short
  have hbel := I0.bel
  have hgD := I0.gD
  cases ok with
  | false =>
    refine (Dec.u8_dead D wD hok).mono ?_
    rintro e w' ⟨rfl, rfl⟩
    have e1 : (sh == sh) = true := by simp
    clear I0 hsrc
    go_wp2
    go_ret
    exact ⟨by simp, hbel⟩
  | true =>
    by_cases hl0 : len = 0
    · subst hl0
      refine (Dec.u8_end D _ 0 sh wD hb hok hsh I0.f6 I0.f7).mono ?_
      rintro e w' ⟨rfl, rfl⟩
      have c6 : ((wD.setCell ⟨D, 6, none⟩ (.bool false)).setCell ⟨D, 7, none⟩ (.bool true)).cell? ⟨D, 6, none⟩ = some (.bool false) := by
        rw [cs_other (by simp)]; exact cs_same hok
      have c7 : ((wD.setCell ⟨D, 6, none⟩ (.bool false)).setCell ⟨D, 7, none⟩ (.bool true)).cell? ⟨D, 7, none⟩ = some (.bool true) :=
        cs_same (by rw [cs_other (by simp)]; exact hsh)
      have hbel' : Below w.heap.size w ((wD.setCell ⟨D, 6, none⟩ (.bool false)).setCell ⟨D, 7, none⟩ (.bool true)) := (hbel.setCell (by simp; omega) _).setCell (by simp; omega) _
      generalize (wD.setCell ⟨D, 6, none⟩ (.bool false)).setCell ⟨D, 7, none⟩ (.bool true) = wE at *
      clear I0 hsrc hb hok hsh hbel
      go_wp2
      go_ret
      exact ⟨by simp, hbel'⟩
    · obtain ⟨n, rfl⟩ : ∃ n, len = n + 1 := ⟨len - 1, by omega⟩
      obtain ⟨b, off, rfl, hbl, hc⟩ := hsrc (by omega)
      have hrow := I0.row 0 (by omega)
      refine (Dec.u8_byte D w.heap.size 0 n (n + 1) (zs.getD 0 0) wD (by omega) (by omega) hb hok I0.f0 hrow (by omega)).mono ?_
      rintro e w' ⟨rfl, a, ha, rfl⟩
      have c0 : (wD.setCell ⟨D, 0, none⟩ (.slice a n (n + 1 - 1))).cell? ⟨D, 0, none⟩ = some (.slice a n (n + 1 - 1)) := cs_same hb
      have c6 : (wD.setCell ⟨D, 0, none⟩ (.slice a n (n + 1 - 1))).cell? ⟨D, 6, none⟩ = some (.bool true) := by rw [cs_other (by simp)]; exact hok
      have c7 : (wD.setCell ⟨D, 0, none⟩ (.slice a n (n + 1 - 1))).cell? ⟨D, 7, none⟩ = some (.bool sh) := by rw [cs_other (by simp)]; exact hsh
      have cg : ∀ j, j < n + 1 → (wD.setCell ⟨D, 0, none⟩ (.slice a n (n + 1 - 1))).cell? ⟨w.heap.size, j, none⟩ = some (.int .u8 (zs.getD j 0)) := fun j hj => by
        rw [cs_other (by intro e; cases e; omega)]; exact I0.row j hj
      have ca : ∀ j, j < n + 1 → (wD.setCell ⟨D, 0, none⟩ (.slice a n (n + 1 - 1))).cell? ⟨b, off + j, none⟩ = some (.int .u8 (zs.getD j 0)) := fun j hj => by
        rw [cs_other (by intro e; have := congrArg Addr.block e; simp at this; omega), hbel.cell hbl]; exact hc j hj
      have hbel' : Below w.heap.size w (wD.setCell ⟨D, 0, none⟩ (.slice a n (n + 1 - 1))) := hbel.setCell (by simp; omega) _
      generalize wD.setCell ⟨D, 0, none⟩ (.slice a n (n + 1 - 1)) = wE at *
      have d1 : ∀ m, (convert 23 9 (.slice a n (n + 1 - 1))).run Yba.prog (wE.drewN m) = .ok (.string (strOfNums (zs.drop 1))) (wE.drewN m) := fun m =>
        conv_row _ _ _ _ _ (by simp; omega) (fun hp => ⟨_, _, ha (by omega), fun i hi => by
          have := cg (1 + i) (by omega)
          simpa [Nat.add_comm] using this⟩)
      have c00 : wE.cell? ⟨b, off, none⟩ = some (.int .u8 (zs.getD 0 0)) := by simpa using ca 0 (by omega)
      by_cases hcap : cap = 1
      · subst hcap
        obtain rfl : n = 0 := by omega
        have d2 : ∀ m, (convert 23 9 (.slice (some ⟨b, off, none⟩) 0 0)).run Yba.prog (wE.drewN m) = .ok (.string (strOfNums (zs.drop 1))) (wE.drewN m) := fun m =>
          conv_row _ _ _ _ _ (by simp; omega) (fun hp => by omega)
        have e1 : (sh == sh) = true := by simp
        clear I0 hb hok hsh hbel hrow cg ca ha hc
        generalize zs.getD 0 0 = y at *
        generalize strOfNums (zs.drop 1) = t at *
        go_wp2
        go_quiet ((go_at_call 15; exact Calls.quiet_of_same (equal_same _ _ _ _ _ _ t _ (d1 _) (d2 _))))
        go_wp2
        go_ret
        exact ⟨by simp, below_drewN hbel' _⟩
      · have d2 : ∀ m, (convert 23 9 (.slice (some ⟨b, off + 1, none⟩) n (cap - 1))).run Yba.prog (wE.drewN m) = .ok (.string (strOfNums (zs.drop 1))) (wE.drewN m) := fun m =>
          conv_row _ _ _ _ _ (by simp; omega) (fun hp => ⟨_, _, rfl, fun i hi => by
            have := ca (1 + i) (by omega)
            simpa [Nat.add_comm, Nat.add_left_comm] using this⟩)
        have e1 : (sh == sh) = true := by simp
        have l0 : (0 : Int) < (n : Int) + 1 := by omega
        have l1 : (1 : Int) ≤ (n : Int) + 1 := by omega
        have l2 : ((n : Int) + 1 == 0) = false := by simp; omega
        clear I0 hb hok hsh hbel hrow cg ca ha hc
        generalize zs.getD 0 0 = y at *
        generalize strOfNums (zs.drop 1) = t at *
        go_wp2
        go_quiet ((go_at_call 15; exact Calls.quiet_of_same (equal_same _ _ _ _ _ _ t _ (d1 _) (d2 _))))
        go_wp2
        go_ret
        exact ⟨by simp, below_drewN hbel' _⟩

end Go.Proofs.Ybulkuws.StepWalk
