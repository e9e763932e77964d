import Derived.Test.YbulkuwsMWalk
namespace Go.Proofs.Ybulkuws.MMatch
open Go.RowKit ErrIs WrapWalk MWalk

/-- Below base, block M aside, nothing has turned. -/
structure Kept (M base : Nat) (w w' : World) : Prop where
  os : w'.os = w.os
  tape : w'.tape = w.tape
  output : w'.output = w.output
  size : w.heap.size ≤ w'.heap.size
  block : ∀ k, k < base → k ≠ M → w'.heap[k]? = w.heap[k]?

/-- What the loop over the kinds hands on: the log vl, the matches m, in rows of their own that are not one. -/
structure Both (M base : Nat) (mask : Int) (logs hit : List Value) (w vw : World) (vl m : Value) : Prop where
  log : LogAt M base mask logs vl vw
  own : vw.ownsRow base 3 1 m hit.length hit
  apart : ∀ g, m.ownBlock = some g → vl.ownBlock ≠ some g
  kept : Kept M base w vw

theorem own_same {w w' : World} {base e size n : Nat} {v : Value} {xs : List Value} (h : w.ownsRow base e size v n xs) (hb : ∀ g, v.ownBlock = some g → w'.heap[g]? = w.heap[g]?) : w'.ownsRow base e size v n xs := by
  refine ⟨h.1, ?_⟩
  rcases h.2 with hn | ⟨g, cap, cur, rfl, hbg, hgg, rest⟩
  · exact .inl hn
  · exact .inr ⟨g, cap, cur, rfl, hbg, by rw [hb g rfl]; exact hgg, rest⟩

theorem log_same {M base : Nat} {mask : Int} {logs : List Value} {vl : Value} {w w' : World} (h : LogAt M base mask logs vl w) (hM : w'.heap[M]? = w.heap[M]?) (hs : w.heap.size ≤ w'.heap.size)
    (hb : ∀ g, vl.ownBlock = some g → w'.heap[g]? = w.heap[g]?) : LogAt M base mask logs vl w' := by
  obtain ⟨h1, h2, h3, h4, h5, h6⟩ := h
  exact ⟨by rw [World.cell?_of_block (w := w) hM]; exact h1, by rw [World.cell?_of_block (w := w) hM]; exact h2, by rw [World.frozen?_of_block (w := w) hM]; exact h3, own_same h4 hb, h5, by omega⟩

/-- One call of Is: the log grows, the matches stay. -/
theorem both_is {M base : Nat} {mask id : Int} {logs hit : List Value} {w w1 w2 : World} {vl vl' m : Value} (h : Both M base mask logs hit w w1 vl m) (hL : LogAt M base mask (logs ++ [.int .i64 id]) vl' w2) (hU : Upd M vl vl' w1 w2) :
    Both M base mask (logs ++ [.int .i64 id]) hit w w2 vl' m := by
  obtain ⟨h1, h2, h3, h4⟩ := h
  refine ⟨hL, own_same h2 fun g hg => ?_, fun g hg e => ?_, ?_⟩
  · have := h2.lt g hg
    exact hU.block g this.2 (by have := h1.Mb; omega) (fun e => h3 g hg e.symm)
  · have := h2.lt g hg
    rcases hU.lies g e with h | h
    · exact h3 g hg h
    · omega
  · obtain ⟨k1, k2, k3, k4, k5⟩ := h4
    refine ⟨hU.os.trans k1, hU.tape.trans k2, hU.output.trans k3, Nat.le_trans k4 hU.size, fun k hk hkM => ?_⟩
    rw [hU.block k (by have := h1.bs; omega) hkM (fun e => by have := (h1.own.lt k e.symm).1; omega)]
    exact k5 k hk hkM

/-- One append to the matches: the log stays. -/
theorem both_hit {M base n : Nat} {mask : Int} {logs hit : List Value} {w w1 w3 : World} {vl m m' x : Value} {o : Obj} (h : Both M base mask logs hit w w1 vl m) (hn : hit.length = n)
    (hown : w3.ownsRow base 3 1 m' (n + 1) (hit ++ [x])) (hg : (w1.alloc o).grownBy w3 m.ownBlock) (hat : m'.ownBlock = m.ownBlock ∨ m'.ownBlock = some (w1.heap.size + 1)) :
    Both M base mask logs (hit ++ [x]) w w3 vl m' := by
  obtain ⟨h1, h2, h3, h4⟩ := h
  have hMb := h1.Mb
  have hbs := h1.bs
  have hMm : some M ≠ m.ownBlock := fun e => by have := (h2.lt M e.symm).1; omega
  have hblk : ∀ k, k < w1.heap.size → some k ≠ m.ownBlock → w3.heap[k]? = w1.heap[k]? := fun k hk hkm => by
    rw [hg.block k (by simp; omega) hkm]
    exact Below.heap_alloc w1 o k hk
  have hsz : w1.heap.size + 1 ≤ w3.heap.size := by simpa using hg.size
  refine ⟨log_same h1 (hblk M (by omega) hMm) (by omega) (fun g hg' => ?_), by simpa [hn] using hown, fun g hg' e => ?_, ?_⟩
  · exact hblk g (h1.own.lt g hg').2 (fun e => h3 g e.symm hg')
  · rcases hat with ha | ha
    · exact h3 g (by rw [← ha]; exact hg') e
    · rw [ha] at hg'
      have := (h1.own.lt g e).2
      simp at hg'
      omega
  · obtain ⟨k1, k2, k3, k4, k5⟩ := h4
    refine ⟨hg.os.trans k1, hg.tape.trans k2, hg.output.trans k3, by omega, fun k hk hkM => ?_⟩
    rw [hblk k (by omega) (fun e => by have := (h2.lt k e.symm).1; omega)]
    exact k5 k hk hkM

/-- The first k numbers of c, as the log holds them. -/
def logged (c : Nat → Int) (k : Nat) : List Value := (List.range k).map fun i => .int .i64 (c i)
theorem logged_succ (c : Nat → Int) (k : Nat) : logged c (k + 1) = logged c k ++ [.int .i64 (c k)] := by simp [logged, List.range_succ]
theorem logged_length (c : Nat → Int) (k : Nat) : (logged c k).length = k := by simp [logged]

set_option maxRecDepth 100000 in
set_option maxHeartbeats 1000000 in
/-- '(*execution).matching' at the error with an Is method. -/
theorem matching_m (E W g n M base : Nat) (kb : Nat → Nat) (c : Nat → Int) (mask : Int) (w : World) (hn : n ≤ 1024)
    (hE : w.cell? ⟨E, 20, none⟩ = some (.pointer (some ⟨W, 0, none⟩))) (hW : w.cell? ⟨W, 2, none⟩ = some (.slice (some ⟨g, 0, none⟩) n n))
    (hk : ∀ i, i < n → w.cell? ⟨g, i, none⟩ = some (.iface 48 (.pointer (some ⟨kb i, 0, none⟩))))
    (hkb : ∀ i, i < n → w.cell? ⟨kb i, 0, none⟩ = some (.int .i64 (c i)) ∧ kb i ≠ M) (hc : ∀ i, i < n → 0 ≤ c i ∧ c i ≤ 255) (hgM : g ≠ M)
    (hL : LogAt M base mask [] (.slice none 0 0) w) (hbase : base = w.heap.size) :
    Calls Yba.prog 16 #[.pointer (some ⟨E, 0, none⟩), .iface 53 (.pointer (some ⟨M, 0, none⟩))] w fun e w' => ∃ x vl, e = .returned x ∧ Both M base mask (logged c n) ((hits (fun i => bitB mask (c i)) n).map (Value.int .i64)) w w' vl x := by
  obtain ⟨i0, hi, hz0, hz1, hz2⟩ := info_parts info3
  generalize hf : (fun i => bitB mask (c i)) = f
  have Hf : Hid ((fun i => bitB mask (c i)) = f) := hf
  have Hk : Hid (∀ i, i < n → w.cell? ⟨g, i, none⟩ = some (.iface 48 (.pointer (some ⟨kb i, 0, none⟩)))) := hk
  have Hkb : Hid (∀ i, i < n → w.cell? ⟨kb i, 0, none⟩ = some (.int .i64 (c i)) ∧ kb i ≠ M) := hkb
  have Hc : Hid (∀ i, i < n → 0 ≤ c i ∧ c i ≤ 255) := hc
  have HL : Hid (LogAt M base mask [] (.slice none 0 0) w) := hL
  have HB : Hid (base = w.heap.size) := hbase
  clear hk hkb hc hL hf hbase
  go_enter Yba.func16, Yba.ntmps16
  go_wp2
  go_loopw [5, 16] (fun m i wr => ∃ (k : Nat) (vl : Value), k ≤ n ∧ i = .int .i64 k ∧ Both M base mask (logged c k) ((hits f k).map (Value.int .i64)) w wr vl m) (fun _ i _ => n - (intOf i).toNat)
  case atStart => exact ⟨0, _, Nat.zero_le _, rfl, HL.out, World.ownsRow_nil _ _ _ _, fun _ h => (by simp [Value.ownBlock] at h), rfl, rfl, rfl, Nat.le_refl _, fun _ _ _ => rfl⟩
  case round =>
    obtain ⟨k, vl, hkn, rfl, hB⟩ := hrel
    clear hE hW
    by_cases hlt : k < n
    · have hlt' : (k : Int) < n := by omega
      have hc0 := Hk.out k hlt
      have hgs := World.block_lt_of_cell? w _ hc0
      have hcell : wr.cell? ⟨g, k, none⟩ = some (.iface 48 (.pointer (some ⟨kb k, 0, none⟩))) := by
        rw [World.cell?_of_block (w := w) (hB.kept.block g (by have := HB.out; simp at hgs; omega) hgM)]; exact hc0
      clear hc0 hgs
      obtain ⟨ht0, htM⟩ := Hkb.out k hlt
      have hts := World.block_lt_of_cell? w _ ht0
      have HT : Hid (wr.cell? ⟨kb k, 0, none⟩ = some (.int .i64 (c k))) := by
        show _ = _
        rw [World.cell?_of_block (w := w) (hB.kept.block (kb k) (by have := HB.out; simp at hts; omega) htM)]; exact ht0
      have HV : Hid (some (kb k) ≠ vl.ownBlock) := fun e => by
        have := (hB.log.own.lt _ e.symm).1
        have := HB.out
        simp at hts
        omega
      clear ht0 hts
      obtain ⟨c0, c1⟩ := Hc.out k hlt
      have hll : (logged c k).length ≤ 1024 := by rw [logged_length]; omega
      have hfk : bitB mask (c k) = f k := by rw [← Hf.out]
      have hle := hits_le f k
      cases hb : f k with
      | false =>
        rw [hb] at hfk
        have Hfk : Hid (bitB mask (c k) = false) := hfk
        have Hhit : Hid (hits f (k + 1) = hits f k) := by show _ = _; rw [hits_succ, hb]; simp
        have HBo : Hid (Both M base mask (logged c k) ((hits f k).map (Value.int .i64)) w wr vl u5) := hB
        clear hb hfk hB
        go_wp2_with (go_at_call 22; go_must (refine (is_m22 M (kb k) base mask (c k) vl (logged c k) _ c0 c1 hll HBo.out.log HT.out htM HV.out).mono ?_; rintro e w' ⟨he, vl', hL', hU'⟩; rw [Hfk.out] at he; subst he))
        have R := both_is HBo.out hL' hU'
        go_roundw
        case rel => exact ⟨k + 1, vl', by omega, by go_num, by rw [Hhit.out, logged_succ]; exact R⟩
        case measure => simp [intOf]; omega
      | true =>
        rw [hb] at hfk
        have Hfk : Hid (bitB mask (c k) = true) := hfk
        have Hhit : Hid (hits f (k + 1) = hits f k ++ [(k : Int)]) := by show _ = _; rw [hits_succ, hb]; simp
        have HBo : Hid (Both M base mask (logged c k) ((hits f k).map (Value.int .i64)) w wr vl u5) := hB
        obtain ⟨nh, hnh⟩ : ∃ nh, (hits f k).length = nh := ⟨_, rfl⟩
        have Hnh : Hid (((hits f k).map (Value.int .i64)).length = nh) := by show _ = _; rw [List.length_map]; exact hnh
        have hnk : nh ≤ k := by omega
        clear hb hfk hB hle hnh
        go_wp2_with (first | (go_at_call 22; go_must (refine (is_m22 M (kb k) base mask (c k) vl (logged c k) _ c0 c1 hll HBo.out.log HT.out htM HV.out).mono ?_; rintro e w' ⟨he, vl', hL', hU'⟩; rw [Hfk.out] at he; subst he; have R := both_is HBo.out hL' hU'; have hown := R.own; have hbs := R.log.bs; rw [Hnh.out] at hown; have HR : Hid (Both M base mask (logged c k ++ [.int .i64 (c k)]) ((hits f k).map (Value.int .i64)) w w' vl' u5) := R; clear R hL' hU')) | (at_builtin; go_must (refine wpList_append_own_at _ rfl _ _ 54 rfl base 3 i0 (.int .i64 0) 1 8 Yba.underlying54 hi hz0 hz1 hz2 rfl (by decide) _ nh _ rfl (hown.alloc _) ⟨w'.heap.size, 0, none⟩ 1 1 [.int .i64 (k : Int)] rfl rfl (cell_one_new _ _ _) (by intro u hu; simp at hu; subst hu; rfl) (by unfold maxLen; omega) (by omega) (by simp; omega) ?_)))
        intro m' w3 hown' hgrow _ hat
        have R3 := both_hit HR.out Hnh.out hown' hgrow hat
        have HR3 : Hid (Both M base mask (logged c (k + 1)) ((hits f (k + 1)).map (Value.int .i64)) w w3 vl' m') := by
          show Both _ _ _ _ _ _ _ _ _
          rw [Hhit.out, logged_succ, List.map_append]; exact R3
        clear R3 hown' hgrow hat hown HR
        go_wp2
        go_roundw
        case rel => exact ⟨k + 1, vl', by omega, by go_num, HR3.out⟩
        case measure => simp [intOf]; omega
    · have : k = n := by omega
      subst this
      go_wp2
      go_ret
      exact ⟨_, vl, rfl, hB⟩

set_option maxRecDepth 100000 in
set_option maxHeartbeats 1000000 in
/-- slices.Equal of two slices that hold the same numbers. -/
theorem equal_ints (a1 a2 : Option Addr) (n c1 c2 : Nat) (zs : Nat → Int) (w : World) (hn : n ≤ 1024)
    (h : 0 < n → ∃ g1 g2, a1 = some ⟨g1, 0, none⟩ ∧ a2 = some ⟨g2, 0, none⟩ ∧ ∀ i, i < n → w.cell? ⟨g1, i, none⟩ = some (.int .i64 (zs i)) ∧ w.cell? ⟨g2, i, none⟩ = some (.int .i64 (zs i))) :
    Calls Yba.prog 17 #[.slice a1 n c1, .slice a2 n c2] w fun e w' => e = .returned (.bool true) ∧ ∃ q, w' = w.drewN q := by
  have hnn : ((n : Int) != n) = false := by simp
  have H : Hid (0 < n → ∃ g1 g2, a1 = some ⟨g1, 0, none⟩ ∧ a2 = some ⟨g2, 0, none⟩ ∧ ∀ i, i < n → w.cell? ⟨g1, i, none⟩ = some (.int .i64 (zs i)) ∧ w.cell? ⟨g2, i, none⟩ = some (.int .i64 (zs i))) := h
  clear h
  go_enter Yba.func17, Yba.ntmps17
  go_wp2
  go_loopw [13] (fun i wr => ∃ k : Nat, k ≤ n ∧ i = .int .i64 k ∧ ∃ q, wr = w.drewN q) (fun i _ => n - (intOf i).toNat)
  case atStart => exact ⟨0, Nat.zero_le _, rfl, 0, rfl⟩
  case round =>
    obtain ⟨k, hkn, rfl, q, rfl⟩ := hrel
    by_cases hlt : k < n
    · have hlt' : (k : Int) < n := by omega
      obtain ⟨g1, g2, rfl, rfl, hc⟩ := H.out (by omega)
      obtain ⟨hc1, hc2⟩ := hc k hlt
      have hne : (zs k != zs k) = false := by simp
      clear hc
      go_wp2
      go_quiet (fail)
      go_wp2
      go_roundw
      case rel => exact ⟨k + 1, by omega, by go_num, _, rfl⟩
      case measure => simp [intOf]; omega
    · have hlt' : ¬ (k : Int) < n := by omega
      go_wp2
      go_ret
      exact ⟨rfl, q, rfl⟩

end Go.Proofs.Ybulkuws.MMatch
