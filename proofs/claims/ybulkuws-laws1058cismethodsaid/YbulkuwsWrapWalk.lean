import Derived.Test.YbulkuwsErrIs
namespace Go.Proofs.Ybulkuws.WrapWalk
open Go.RowKit ErrIs

theorem info52 : (Yba.prog.info? 52).map (fun i => (i.zero, i.size, i.bytes)) = some (some .nilIface, 1, 16) := by kernel_rfl
theorem info3 : (Yba.prog.info? 3).map (fun i => (i.zero, i.size, i.bytes)) = some (some (.int .i64 0), 1, 8) := by kernel_rfl

/-- The cells of a new execution whose workflow lies at block b: its field 'wf' stands at place 20. -/
theorem exec_ex (b : Nat) : ∃ C : Array Value, (∀ w : World, (Instr.build 86 #[(5, .pointer (some ⟨b, 0, none⟩))]).run Yba.prog w = .ok (.agg C) w) ∧ C[20]? = some (.pointer (some ⟨b, 0, none⟩)) :=
  ⟨(Yba.prog.built 86 [(5, .pointer (some ⟨b, 0, none⟩))]).getD #[], fun w => by kernel_rfl, by kernel_rfl⟩

/-- A struct literal of one written field, by its run. -/
theorem oper_build1 {P : Program} {w : World} {o : Oper} {a : Act} {K : Act → World → Prop} {Q : Exit → Act → World → Prop} (t : TypeId) (i : Nat) (x : Operand)
    (ho : o.op = .build t #[(i, x)]) (p v : Value) (hx : a.eval x = p) (hrun : (Instr.build t #[(i, p)]).run P w = .ok v w)
    (h : K (a.put o.dst v) w) : Oper.wp P o a w K Q := by
  unfold Oper.wp
  simp [execOp, ho, hx, hrun, Result.andThen]
  exact h

/-- The indexes below k at which 'f' says yes, in order. -/
def hits (f : Nat → Bool) (k : Nat) : List Int := ((List.range k).filter f).map fun (i : Nat) => (i : Int)
theorem hits_zero (f : Nat → Bool) : hits f 0 = [] := rfl
theorem hits_succ (f : Nat → Bool) (k : Nat) : hits f (k + 1) = hits f k ++ if f k = true then [(k : Int)] else [] := by
  unfold hits
  rw [List.range_succ, List.filter_append, List.map_append]
  by_cases h : f k <;> simp [h]
theorem hits_le (f : Nat → Bool) (k : Nat) : (hits f k).length ≤ k := by
  unfold hits
  have := List.length_filter_le f (List.range k)
  simp at this ⊢
  exact this

theorem block_lt {w : World} {b : Nat} {o : Obj} (h : w.heap[b]? = some o) : b < w.heap.size := (Array.getElem?_eq_some_iff.1 h).1

theorem chain_below {w w' : World} {sb : Nat} : ∀ {d : Nat} {v : Value}, Chain w sb d v → Below w.heap.size w w' → Chain w' sb d v
  | 0, _, h, _ => h
  | _ + 1, _, ⟨pb, u, hv, hc, h⟩, hb => ⟨pb, u, hv, by rw [hb.cell (World.block_lt_of_cell? w _ hc)]; exact hc, chain_below h hb⟩

set_option maxRecDepth 100000 in
set_option maxHeartbeats 1000000 in
/-- '(*execution).matching' where errors.Is turns nothing: the indexes of the kinds that are the chain's sentinel. -/
theorem matching_chain (E W g n : Nat) (kb : Nat → Nat) (v : Value) (d sb : Nat) (cs : Array Value) (ts : TypeId) (w : World) (hn : n ≤ 1024)
    (hE : w.cell? ⟨E, 20, none⟩ = some (.pointer (some ⟨W, 0, none⟩))) (hW : w.cell? ⟨W, 2, none⟩ = some (.slice (some ⟨g, 0, none⟩) n n))
    (hk : ∀ i, i < n → w.cell? ⟨g, i, none⟩ = some (.iface 48 (.pointer (some ⟨kb i, 0, none⟩))))
    (hkb : ∀ i, i < n → ∃ c t, w.heap[kb i]? = some (.cells c t (0, 0)))
    (hch : Chain w sb d v) (hsb : w.heap[sb]? = some (.cells cs ts (0, 0))) :
    Calls Yba.prog 16 #[.pointer (some ⟨E, 0, none⟩), v] w fun e w' => ∃ x, e = .returned x ∧ w'.ownsRow w.heap.size 3 1 x (hits (fun i => sb == kb i) n).length ((hits (fun i => sb == kb i) n).map (Value.int .i64)) ∧ Below w.heap.size w w' := by
  obtain ⟨i0, hi, hz0, hz1, hz2⟩ := info_parts info3
  generalize hf : (fun i => sb == kb i) = f
  have Hf : Hid ((fun i => sb == kb i) = f) := hf
  clear hf
  have Hk : Hid (∀ i, i < n → w.cell? ⟨g, i, none⟩ = some (.iface 48 (.pointer (some ⟨kb i, 0, none⟩)))) := hk
  have Hkb : Hid (∀ i, i < n → ∃ c t, w.heap[kb i]? = some (.cells c t (0, 0))) := hkb
  have Hch : Hid (Chain w sb d v) := hch
  have Hsb : Hid (w.heap[sb]? = some (.cells cs ts (0, 0))) := hsb
  clear hk hkb hch hsb
  go_enter Yba.func16, Yba.ntmps16
  go_wp2
  go_loopw [5, 16] (fun m i wr => ∃ k : Nat, k ≤ n ∧ i = .int .i64 k ∧ wr.ownsRow w.heap.size 3 1 m (hits f k).length ((hits f k).map (Value.int .i64)) ∧ Below w.heap.size w wr) (fun _ i _ => n - (intOf i).toNat)
  case atStart => exact ⟨0, Nat.zero_le _, rfl, World.ownsRow_nil _ _ _ _, Below.refl _ _⟩
  case round =>
    obtain ⟨k, hkn, rfl, hown, hbel⟩ := hrel
    clear hE hW
    by_cases hlt : k < n
    · have hlt' : (k : Int) < n := by omega
      have hc0 := Hk.out k hlt
      have hc : wr.cell? ⟨g, k, none⟩ = some (.iface 48 (.pointer (some ⟨kb k, 0, none⟩))) := by
        rw [hbel.cell (World.block_lt_of_cell? w _ hc0)]; exact hc0
      clear hc0
      obtain ⟨ct, tt, ht⟩ := Hkb.out k hlt
      have Ht : Hid (wr.heap[kb k]? = some (.cells ct tt (0, 0))) := by
        show _ = _
        rw [hbel.block _ (block_lt ht)]; exact ht
      have Hs : Hid (wr.heap[sb]? = some (.cells cs ts (0, 0))) := by
        show _ = _
        rw [hbel.block _ (block_lt Hsb.out)]; exact Hsb.out
      have HC : Hid (Chain wr sb d v) := chain_below Hch.out hbel
      clear ht
      have hfk : (sb == kb k) = f k := by rw [← Hf.out]
      have hsz := hbel.size
      have hle := hits_le f k
      cases hb : f k with
      | false =>
        rw [hb] at hfk
        have hhit : hits f (k + 1) = hits f k := by rw [hits_succ, hb]; simp
        have Hhit : Hid (hits f (k + 1) = hits f k) := hhit
        clear hhit hb
        go_wp2_with (go_at_call 22; go_must (refine (is_chain d v sb (kb k) cs ct ts tt _ HC.out Hs.out Ht.out).mono ?_; rintro e w' ⟨rfl, rfl⟩))
        go_roundw
        case rel => exact ⟨k + 1, by omega, by go_num, by rw [Hhit.out]; exact hown, hbel⟩
        case measure => simp [intOf]; omega
      | true =>
        rw [hb] at hfk
        have hhit : hits f (k + 1) = hits f k ++ [(k : Int)] := by rw [hits_succ, hb]; simp
        have Hhit : Hid (hits f (k + 1) = hits f k ++ [(k : Int)]) := hhit
        clear hhit hb
        go_wp2_with (first | (go_at_call 22; go_must (refine (is_chain d v sb (kb k) cs ct ts tt _ HC.out Hs.out Ht.out).mono ?_; rintro e w' ⟨rfl, hw⟩; obtain rfl := hw.symm)) | (at_builtin; go_must (refine wpList_append_own _ rfl _ _ 54 rfl w.heap.size 3 i0 (.int .i64 0) 1 8 Yba.underlying54 hi hz0 hz1 hz2 rfl (by decide) _ _ _ rfl (hown.alloc _) ⟨wr.heap.size, 0, none⟩ 1 1 [.int .i64 (k : Int)] rfl rfl ?c1 ?c2 ?c3 ?c4 ?c5 ?_)))
        case c1 => exact cell_one_new _ _ _
        case c2 => intro u hu; simp at hu; subst hu; rfl
        case c3 => unfold maxLen; omega
        case c4 => omega
        case c5 => simp; omega
        intro v' w1 hown' hgrow _
        have R1 : w1.ownsRow w.heap.size 3 1 v' (hits f (k + 1)).length ((hits f (k + 1)).map (Value.int .i64)) := by
          rw [Hhit.out]; simpa using hown'
        have R2 : Below w.heap.size w w1 := (hbel.alloc hsz _).grown hgrow (by simp; omega) (fun b hb => (hown.lt b hb).1)
        have HR1 : Hid (w1.ownsRow w.heap.size 3 1 v' (hits f (k + 1)).length ((hits f (k + 1)).map (Value.int .i64))) := R1
        clear hown' hgrow R1 hown
        go_wp2
        go_roundw
        case rel => exact ⟨k + 1, by omega, by go_num, HR1.out, R2⟩
        case measure => simp [intOf]; omega
    · have : k = n := by omega
      subst this
      go_wp2
      go_ret
      exact ⟨_, rfl, hown, hbel⟩

/-- 'kinds' behind k rounds of its filling: block g, its sentinels in the blocks N, N + 1, .., each holding its number. -/
structure Kinds (w : World) (g N n : Nat) (c : Nat → Int) (k : Nat) (wr : World) : Prop where
  size : wr.heap.size = N + k
  gN : g < N
  row : ∀ i, i < n → ∃ u, wr.cell? ⟨g, i, none⟩ = some u ∧ (i < k → u = .iface 48 (.pointer (some ⟨N + i, 0, none⟩)))
  frz : ∀ i, i < n → wr.frozen? ⟨g, i, none⟩ = false
  box : ∀ i, i < k → wr.heap[N + i]? = some (.cells #[.int .i64 (c i)] 50 (0, 0))
  bel : Below w.heap.size w wr
  g0 : w.heap.size ≤ g

theorem kinds_start {w w1 : World} {n : Nat} {c : Nat → Int} {xs : List Value} (hown : w1.ownsRow w.heap.size 52 1 (.slice (some ⟨w.heap.size, 0, none⟩) n n) n xs) (hg : w.grownBy w1 none) :
    Kinds w w.heap.size w1.heap.size n c 0 w1 := by
  obtain ⟨hl, h2⟩ := hown
  rcases h2 with ⟨h2, _⟩ | ⟨g', cap', cur, hv, hg', hh, _, _, hs, ht⟩
  · simp at h2
  · simp at hv
    obtain ⟨rfl, rfl⟩ := hv
    refine ⟨rfl, block_lt hh, fun i hi => ?_, fun i hi => ?_, fun i hi => by omega, (Below.refl _ _).grown hg (Nat.le_refl _) (by simp), Nat.le_refl _⟩
    · refine ⟨cur[i]'(by omega), ?_, fun h => by omega⟩
      rw [cell_of_row w1 _ i _ 52 (0, 0) hh]
      simp [Array.getElem?_eq_getElem (xs := cur) (i := i) (by omega)]
    · simp [World.frozen?, hh]

theorem kinds_step {w wr : World} {g N n k : Nat} {c : Nat → Int} {y : Int} (h : Kinds w g N n c k wr) (hk : k < n) (hy : y = c k) :
    Kinds w g N n c (k + 1) ((wr.setCell ⟨g, k, none⟩ (.iface 48 (.pointer (some ⟨wr.heap.size, 0, none⟩)))).alloc (.cells #[.int .i64 y] 50)) := by
  subst hy
  obtain ⟨h1, h2, h3, h4, h5, h6, h7⟩ := h
  have hsz : (wr.setCell ⟨g, k, none⟩ (.iface 48 (.pointer (some ⟨wr.heap.size, 0, none⟩)))).heap.size = wr.heap.size := by simp [World.setCell]
  have hgl : g < (wr.setCell ⟨g, k, none⟩ (.iface 48 (.pointer (some ⟨wr.heap.size, 0, none⟩)))).heap.size := by omega
  refine ⟨by simp; omega, h2, fun i hi => ?_, fun i hi => ?_, fun i hi => ?_, ?_, h7⟩
  · rw [World.cell?_alloc_past _ _ _ hgl]
    by_cases e : i = k
    · subst e
      obtain ⟨u, hu, _⟩ := h3 i hi
      refine ⟨_, World.cell?_setCell_same _ _ _ (u := u) hu, fun _ => by rw [h1]⟩
    · obtain ⟨u, hu, hu'⟩ := h3 i hi
      refine ⟨u, ?_, fun hi' => hu' (by omega)⟩
      rw [World.cell?_setCell_other _ _ _ _ (by intro e'; cases e'; omega)]
      exact hu
  · rw [World.frozen?_alloc_past _ _ _ hgl, World.frozen?_setCell]
    exact h4 i hi
  · by_cases e : i = k
    · subst e
      have := heap_alloc_new (wr.setCell ⟨g, i, none⟩ (.iface 48 (.pointer (some ⟨wr.heap.size, 0, none⟩)))) (.cells #[.int .i64 (c i)] 50)
      rw [hsz, h1] at this
      rw [h1]
      exact this
    · rw [Below.heap_alloc _ _ _ (by omega), Below.heap_setCell _ _ _ _ (by simp; omega)]
      exact h5 i (by omega)
  · exact (h6.setCell (by simpa using h7) _).alloc (by have := h6.size; omega) _

theorem kinds_later {w wr w' : World} {g N n k : Nat} {c : Nat → Int} (h : Kinds w g N n c k wr) (hb : Below wr.heap.size wr w') : (∀ i, i < n → i < k → w'.cell? ⟨g, i, none⟩ = some (.iface 48 (.pointer (some ⟨N + i, 0, none⟩)))) ∧
    (∀ i, i < k → w'.heap[N + i]? = some (.cells #[.int .i64 (c i)] 50 (0, 0))) ∧ Below w.heap.size w w' := by
  refine ⟨fun i hi hk => ?_, fun i hi => ?_, h.bel.trans (hb.mono h.bel.size)⟩
  · obtain ⟨u, hu, hu'⟩ := h.row i hi
    rw [hb.cell (by have := h.gN; have := h.size; simp; omega), hu, hu' hk]
  · rw [hb.block _ (by have := h.size; omega)]
    exact h.box i hi

theorem hits_one (N idx : Nat) : ∀ n, hits (fun i => N + idx == N + i) n = if idx < n then [(idx : Int)] else []
  | 0 => rfl
  | n + 1 => by
    rw [hits_succ, hits_one N idx n]
    by_cases e : idx = n
    · subst e; simp
    · have : (N + idx == N + n) = false := by simp; omega
      by_cases h : idx < n
      · simp [this, h, show idx < n + 1 by omega]
      · simp [this, h, show ¬ idx < n + 1 by omega]

theorem chain_step {w3 wx : World} {sb q : Nat} {v : Value} (h : Chain wx sb q v) (hb : Below w3.heap.size w3 wx) :
    Chain (wx.alloc (.cells #[v] 93)) sb (q + 1) (.iface 91 (.pointer (some ⟨wx.heap.size, 0, none⟩))) ∧ Below w3.heap.size w3 (wx.alloc (.cells #[v] 93)) :=
  ⟨⟨wx.heap.size, v, rfl, by simp, chain_below h ((Below.refl _ _).alloc (Nat.le_refl _) _)⟩, hb.alloc hb.size _⟩

/-- The world in which 'matching' is called: two blocks more, the workflow's and the execution's. -/
theorem ready {w wk wx : World} {g N n q sb : Nat} {c : Nat → Int} {v : Value} {A C : Array Value} {cs : Array Value} {ts : TypeId} (hK : Kinds w g N n c n wk) (hb : Below wk.heap.size wk wx) (hch : Chain wx sb q v)
    (hsb : wx.heap[sb]? = some (.cells cs ts (0, 0))) (hA : A[2]? = some (.slice (some ⟨g, 0, none⟩) n n)) (hC : C[20]? = some (.pointer (some ⟨wx.heap.size, 0, none⟩))) :
    ((wx.alloc (.cells A 63)).alloc (.cells C 86)).cell? ⟨wx.heap.size + 1, 20, none⟩ = some (.pointer (some ⟨wx.heap.size, 0, none⟩)) ∧
    ((wx.alloc (.cells A 63)).alloc (.cells C 86)).cell? ⟨wx.heap.size, 2, none⟩ = some (.slice (some ⟨g, 0, none⟩) n n) ∧
    (∀ i, i < n → ((wx.alloc (.cells A 63)).alloc (.cells C 86)).cell? ⟨g, i, none⟩ = some (.iface 48 (.pointer (some ⟨N + i, 0, none⟩)))) ∧
    (∀ i, i < n → ∃ c t, ((wx.alloc (.cells A 63)).alloc (.cells C 86)).heap[N + i]? = some (.cells c t (0, 0))) ∧
    Chain ((wx.alloc (.cells A 63)).alloc (.cells C 86)) sb q v ∧ ((wx.alloc (.cells A 63)).alloc (.cells C 86)).heap[sb]? = some (.cells cs ts (0, 0)) ∧
    Below w.heap.size w ((wx.alloc (.cells A 63)).alloc (.cells C 86)) := by
  have hb2 : Below wx.heap.size wx ((wx.alloc (.cells A 63)).alloc (.cells C 86)) := ((Below.refl _ _).alloc (Nat.le_refl _) _).alloc (by simp) _
  obtain ⟨k1, k2, k3⟩ := kinds_later hK (hb.trans (hb2.mono hb.size))
  refine ⟨?_, ?_, fun i hi => k1 i hi hi, fun i hi => ⟨_, _, k2 i hi⟩, chain_below hch hb2, by rw [hb2.block _ (block_lt hsb)]; exact hsb, k3⟩
  · rw [World.cell?_alloc_at _ _ _ _ (by simp)]
    exact hC
  · rw [World.cell?_alloc_past _ _ _ (by simp), World.cell?_alloc_at _ _ _ _ rfl]
    exact hA

theorem own_one {w : World} {base : Nat} {x y : Value} (h : w.ownsRow base 3 1 x 1 [y]) : ∃ g cap, x = .slice (some ⟨g, 0, none⟩) 1 cap ∧ w.cell? ⟨g, 0, none⟩ = some y := by
  rcases h.2 with ⟨_, h2⟩ | ⟨g, cap, cur, rfl, _⟩
  · omega
  · refine ⟨g, cap, rfl, ?_⟩
    have := h.cells (g := g) rfl 0 y rfl
    simpa [Addr.add] using this

theorem own_none {w : World} {base : Nat} {x : Value} {xs : List Value} (h : w.ownsRow base 3 1 x 0 xs) : ∃ a cap, x = .slice a 0 cap := by
  rcases h.2 with ⟨rfl, _⟩ | ⟨g, cap, cur, rfl, _⟩
  · exact ⟨_, _, rfl⟩
  · exact ⟨_, _, rfl⟩

set_option maxRecDepth 100000 in
set_option maxHeartbeats 1000000 in
theorem walk (n j d : Nat) (w : World) (hn : n ≤ 255) (hj : j ≤ 255) (hd : d ≤ 255) :
    Calls Yba.prog 8 #[.int .u8 n, .int .u8 j, .int .u8 d] w fun e w' => e = .returned (.bool true) ∧ Below w.heap.size w w' := by
  obtain ⟨i0, hi, hz0, hz1, hz2⟩ := info_parts info52
  go_enter Yba.func8, Yba.ntmps8
  go_wp2_with (at_make; go_must (refine wpList_make_full _ rfl _ _ 47 rfl w.heap.size 52 i0 .nilIface 1 Yba.underlying47 hi hz0 hz1 _ _ _ _ n rfl rfl rfl rfl (by rw [hz2]; omega) (by unfold maxLen; omega) (by omega) ?_))
  intro w1 hown hgrow
  have K0 := kinds_start (c := fun i => (i : Int)) hown hgrow
  clear hown hgrow hi hz0 hz1 hz2
  go_wp2
  go_loopw [9] (fun i wr => ∃ k : Nat, k ≤ n ∧ i = .int .i64 k ∧ Kinds w w.heap.size w1.heap.size n (fun i => (i : Int)) k wr) (fun i _ => n - (intOf i).toNat)
  case atStart => exact ⟨0, Nat.zero_le _, rfl, K0⟩
  case round =>
    obtain ⟨k, hkn, rfl, hK⟩ := hrel
    clear K0
    generalize w1.heap.size = N at *
    by_cases hlt : k < n
    · have hlt' : (k : Int) < n := by omega
      obtain ⟨u, hu, _⟩ := hK.row k hlt
      have hfr := hK.frz k hlt
      have hgs : w.heap.size < wr.heap.size := by have := hK.gN; have := hK.size; omega
      go_wp2
      go_roundw
      case rel => exact ⟨k + 1, by omega, by go_num, kinds_step hK hlt rfl⟩
      case measure => simp [intOf]; omega
    · have hkn : k = n := by omega
      subst hkn
      by_cases h0 : k = 0
      · subst h0
        go_wp2
        rename World => wk
        have hnew : (wk.alloc (.cells #[.int .i64 0] 50)).heap[wk.heap.size]? = some (.cells #[.int .i64 0] 50 (0, 0)) := heap_alloc_new wk _
        have Hnew : Hid ((wk.alloc (.cells #[.int .i64 0] 50)).heap[wk.heap.size]? = some (.cells #[.int .i64 0] 50 (0, 0))) := hnew
        clear hnew
        go_loopw [13, 14] (fun v i wx => ∃ q : Nat, q ≤ d % 8 ∧ i = .int .i64 q ∧ Chain wx wk.heap.size q v ∧ Below (wk.alloc (.cells #[.int .i64 0] 50)).heap.size (wk.alloc (.cells #[.int .i64 0] 50)) wx) (fun _ i _ => d % 8 - (intOf i).toNat)
        case atStart => exact ⟨0, Nat.zero_le _, rfl, rfl, Below.refl _ _⟩
        case round =>
          obtain ⟨q, hq, rfl, hch, hbel⟩ := hrel
          obtain ⟨tv, xv, rfl⟩ := hch.held
          by_cases hlt : q < d % 8
          · have hlt' : (q : Int) < (d : Int) % 8 := by omega
            have R := chain_step hch hbel
            have HR : Hid _ := R
            clear R hch hbel
            go_wp2
            go_roundw
            case rel => exact ⟨q + 1, by omega, by go_num, HR.out.1, HR.out.2⟩
            case measure => simp [intOf]; omega
          · have hlt' : ¬ (q : Int) < (d : Int) % 8 := by omega
            have Hch : Hid (Chain wr wk.heap.size q _) := hch
            clear hch
            obtain ⟨C, hC, hC20⟩ := exec_ex wr.heap.size
            go_wp2_with fail
            refine oper_build1 86 5 (.tmp 61) rfl (.pointer (some ⟨wr.heap.size, 0, none⟩)) (.agg C) rfl (hC _) ?_
            go_wp2_with fail
            have hbox : wr.heap[wk.heap.size]? = some (.cells #[.int .i64 0] 50 (0, 0)) := by
              rw [hbel.block _ (by simp)]; exact Hnew.out
            have hbw : Below wk.heap.size wk wr := ((Below.refl _ _).alloc (Nat.le_refl _) _).trans (hbel.mono (by simp))
            obtain ⟨r1, r2, r3, r4, r5, r6, r7⟩ := ready (A := #[.nilIface, .string { data := #[] }, .slice (some ⟨w.heap.size, 0, none⟩) 0 0, .map none, .int .i64 0]) hK hbw Hch.out hbox rfl hC20
            refine (matching_chain (wr.heap.size + 1) wr.heap.size w.heap.size 0 (fun i => N + i) _ q wk.heap.size _ _ _ (by omega) r1 r2 r3 r4 r5 r6).mono ?_
            rintro e w' ⟨x, rfl, hown, hb⟩
            obtain ⟨a, cap, rfl⟩ := own_none hown
            have hfin := r7.trans (hb.mono r7.size)
            clear r1 r2 r3 r4 r5 r6 r7 hown hb hbox hK hbel Hch hC hC20
            go_wp2
            go_ret
            exact ⟨by simp, hfin⟩
      · have hpos : (0 : Int) < k := by omega
        obtain ⟨r, hr⟩ : ∃ r : Nat, (j : Int) % (k : Int) = r := ⟨j % k, by simp⟩
        have hrk : r < k := by have := Int.emod_lt_of_pos (j : Int) hpos; omega
        have hrk' : (r : Int) < k := by omega
        obtain ⟨u, hu, hu'⟩ := hK.row r hrk
        obtain rfl := hu' hrk
        go_wp2
        rename World => wk
        go_loopw [13, 14] (fun v i wx => ∃ q : Nat, q ≤ d % 8 ∧ i = .int .i64 q ∧ Chain wx (N + r) q v ∧ Below wk.heap.size wk wx) (fun _ i _ => d % 8 - (intOf i).toNat)
        case atStart => exact ⟨0, Nat.zero_le _, rfl, rfl, Below.refl _ _⟩
        case round =>
          obtain ⟨q, hq, rfl, hch, hbel⟩ := hrel
          obtain ⟨tv, xv, rfl⟩ := hch.held
          by_cases hlt : q < d % 8
          · have hlt' : (q : Int) < (d : Int) % 8 := by omega
            have R := chain_step hch hbel
            have HR : Hid _ := R
            clear R hu hch hbel
            go_wp2
            go_roundw
            case rel => exact ⟨q + 1, by omega, by go_num, HR.out.1, HR.out.2⟩
            case measure => simp [intOf]; omega
          · have hlt' : ¬ (q : Int) < (d : Int) % 8 := by omega
            have Hch : Hid (Chain wr (N + r) q _) := hch
            clear hch
            obtain ⟨C, hC, hC20⟩ := exec_ex wr.heap.size
            go_wp2_with fail
            refine oper_build1 86 5 (.tmp 61) rfl (.pointer (some ⟨wr.heap.size, 0, none⟩)) (.agg C) rfl (hC _) ?_
            go_wp2_with fail
            have hbox : wr.heap[N + r]? = some (.cells #[.int .i64 (r : Int)] 50 (0, 0)) := by
              rw [hbel.block _ (by have := hK.size; omega)]; exact hK.box r hrk
            obtain ⟨r1, r2, r3, r4, r5, r6, r7⟩ := ready (A := #[.nilIface, .string { data := #[] }, .slice (some ⟨w.heap.size, 0, none⟩) k k, .map none, .int .i64 0]) hK hbel Hch.out hbox rfl hC20
            refine (matching_chain (wr.heap.size + 1) wr.heap.size w.heap.size k (fun i => N + i) _ q (N + r) _ _ _ (by omega) r1 r2 r3 r4 r5 r6).mono ?_
            rintro e w' ⟨x, rfl, hown, hb⟩
            rw [hits_one, if_pos hrk] at hown
            obtain ⟨g2, cap, rfl, hcell⟩ := own_one hown
            have hfin := r7.trans (hb.mono r7.size)
            clear r1 r2 r3 r4 r5 r6 r7 hown hb hbox hK hbel Hch hC hC20 hu hr
            go_wp2
            go_ret
            exact ⟨by simp, hfin⟩

end Go.Proofs.Ybulkuws.WrapWalk
