import Derived.Test.YbulkuwsMMatch
namespace Go.Proofs.Ybulkuws.MLaw
open Go.RowKit ErrIs WrapWalk MWalk MMatch

set_option maxHeartbeats 400000 in
theorem walk_long (a0 : Option Addr) (len cap : Nat) (mask : Int) (w : World) (h : 1024 < len) :
    Calls Yba.prog 7 #[.slice a0 len cap, .int .u64 mask] w fun e w' => e = .returned (.bool true) ∧ Below w.heap.size w w' := by
  have h' : (1024 : Int) < (len : Int) := by omega
  go_enter Yba.func7, Yba.ntmps7
  go_wp2
  go_ret
  exact ⟨rfl, Below.refl _ _⟩

/-- The world in which 'matching' is called: three blocks more: the error's, the workflow's, the execution's. -/
theorem ready_m {w wk : World} {g N n : Nat} {c : Nat → Int} {mask : Int} {A C : Array Value} (hK : Kinds w g N n c n wk)
    (hA : A[2]? = some (.slice (some ⟨g, 0, none⟩) n n)) (hC : C[20]? = some (.pointer (some ⟨wk.heap.size + 1, 0, none⟩))) :
    (((wk.alloc (.cells #[.int .u64 mask, .slice none 0 0] 56)).alloc (.cells A 63)).alloc (.cells C 86)).cell? ⟨wk.heap.size + 2, 20, none⟩ = some (.pointer (some ⟨wk.heap.size + 1, 0, none⟩)) ∧
    (((wk.alloc (.cells #[.int .u64 mask, .slice none 0 0] 56)).alloc (.cells A 63)).alloc (.cells C 86)).cell? ⟨wk.heap.size + 1, 2, none⟩ = some (.slice (some ⟨g, 0, none⟩) n n) ∧
    (∀ i, i < n → (((wk.alloc (.cells #[.int .u64 mask, .slice none 0 0] 56)).alloc (.cells A 63)).alloc (.cells C 86)).cell? ⟨g, i, none⟩ = some (.iface 48 (.pointer (some ⟨N + i, 0, none⟩)))) ∧
    (∀ i, i < n → (((wk.alloc (.cells #[.int .u64 mask, .slice none 0 0] 56)).alloc (.cells A 63)).alloc (.cells C 86)).cell? ⟨N + i, 0, none⟩ = some (.int .i64 (c i)) ∧ N + i ≠ wk.heap.size) ∧
    LogAt wk.heap.size (((wk.alloc (.cells #[.int .u64 mask, .slice none 0 0] 56)).alloc (.cells A 63)).alloc (.cells C 86)).heap.size mask [] (.slice none 0 0) (((wk.alloc (.cells #[.int .u64 mask, .slice none 0 0] 56)).alloc (.cells A 63)).alloc (.cells C 86)) ∧
    Below w.heap.size w (((wk.alloc (.cells #[.int .u64 mask, .slice none 0 0] 56)).alloc (.cells A 63)).alloc (.cells C 86)) := by
  have hb : Below wk.heap.size wk (((wk.alloc (.cells #[.int .u64 mask, .slice none 0 0] 56)).alloc (.cells A 63)).alloc (.cells C 86)) := (((Below.refl _ _).alloc (Nat.le_refl _) _).alloc (by simp) _).alloc (by simp; omega) _
  obtain ⟨k1, k2, k3⟩ := kinds_later hK hb
  have hM : ∀ i, (((wk.alloc (.cells #[.int .u64 mask, .slice none 0 0] 56)).alloc (.cells A 63)).alloc (.cells C 86)).cell? ⟨wk.heap.size, i, none⟩ = (#[.int .u64 mask, .slice none 0 0] : Array Value)[i]? := fun i => by
    rw [World.cell?_alloc_past _ _ _ (by simp; omega), World.cell?_alloc_past _ _ _ (by simp), World.cell?_alloc_at _ _ _ _ rfl]
  refine ⟨?_, ?_, fun i hi => k1 i hi hi, fun i hi => ⟨?_, ?_⟩, ⟨hM 0, hM 1, ?_, World.ownsRow_nil _ _ _ _, by simp; omega, Nat.le_refl _⟩, k3⟩
  · rw [World.cell?_alloc_at _ _ _ _ (by simp)]
    exact hC
  · rw [World.cell?_alloc_past _ _ _ (by simp), World.cell?_alloc_at _ _ _ _ (by simp)]
    exact hA
  · rw [cell_of_row _ _ 0 _ 50 (0, 0) (k2 i hi)]
    rfl
  · have := hK.size
    omega
  · rw [World.frozen?_alloc_past _ _ _ (by simp; omega), World.frozen?_alloc_past _ _ _ (by simp), World.frozen?_alloc_at _ _ _ _ rfl]

theorem own_form {w : World} {base : Nat} {v : Value} {zs : List Int} (h : w.ownsRow base 3 1 v zs.length (zs.map (Value.int .i64))) :
    ∃ a cap, v = .slice a zs.length cap ∧ (0 < zs.length → ∃ g, a = some ⟨g, 0, none⟩ ∧ ∀ i, i < zs.length → w.cell? ⟨g, i, none⟩ = some (.int .i64 (zs.getD i 0))) := by
  rcases h.2 with ⟨rfl, h2⟩ | ⟨g, cap, cur, rfl, _⟩
  · exact ⟨none, 0, by rw [h2], fun hp => by omega⟩
  · refine ⟨_, cap, rfl, fun _ => ⟨g, rfl, fun i hi => ?_⟩⟩
    have := h.cells (g := g) rfl i (.int .i64 (zs.getD i 0)) (by simp [List.getElem?_eq_getElem hi])
    rw [Addr.add_lit] at this
    simpa using this

set_option maxRecDepth 100000 in
set_option maxHeartbeats 2000000 in
theorem walk_short (a0 : Option Addr) (n cap : Nat) (c : Nat → Int) (mask : Int) (w : World) (h : n ≤ 1024) (_hm0 : 0 ≤ mask) (_hm1 : mask ≤ 18446744073709551615) (hc : ∀ i, i < n → 0 ≤ c i ∧ c i ≤ 255)
    (hsrc : 0 < n → ∃ b off : Nat, a0 = some ⟨b, off, none⟩ ∧ b < w.heap.size ∧ ∀ j, j < n → w.cell? ⟨b, off + j, none⟩ = some (.int .u8 (c j))) :
    Calls Yba.prog 7 #[.slice a0 n cap, .int .u64 mask] w fun e w' => e = .returned (.bool true) ∧ Below w.heap.size w w' := by
  have h' : ¬ (1024 : Int) < (n : Int) := by omega
  obtain ⟨i0, hi, hz0, hz1, hz2⟩ := info_parts info52
  have Hc : Hid (∀ i, i < n → 0 ≤ c i ∧ c i ≤ 255) := hc
  have HS : Hid (0 < n → ∃ b off : Nat, a0 = some ⟨b, off, none⟩ ∧ b < w.heap.size ∧ ∀ j, j < n → w.cell? ⟨b, off + j, none⟩ = some (.int .u8 (c j))) := hsrc
  clear hc hsrc
  go_enter Yba.func7, Yba.ntmps7
  go_wp2_with (at_make; go_must (refine wpList_make_full _ rfl _ _ 47 rfl w.heap.size 52 i0 .nilIface 1 Yba.underlying47 hi hz0 hz1 _ _ _ _ n rfl rfl rfl rfl (by rw [hz2]; omega) (by unfold maxLen; omega) (by omega) ?_))
  intro w1 hown hgrow
  have K0 := kinds_start (c := c) hown hgrow
  clear hown hgrow hi hz0 hz1 hz2
  go_wp2
  go_loopw [24] (fun i wr => ∃ k : Nat, k ≤ n ∧ i = .int .i64 k ∧ Kinds w w.heap.size w1.heap.size n c k wr) (fun i _ => n - (intOf i).toNat)
  case atStart => exact ⟨0, Nat.zero_le _, rfl, K0⟩
  case round =>
    obtain ⟨k, hkn, rfl, hK⟩ := hrel
    clear K0
    generalize w1.heap.size = N at *
    by_cases hlt : k < n
    · have hlt' : (k : Int) < n := by omega
      obtain ⟨u, hu, _⟩ := hK.row k hlt
      have hfr := hK.frz k hlt
      have hgs : w.heap.size < wr.heap.size := by have := hK.gN; have := hK.size; omega
      obtain ⟨c0, c1⟩ := Hc.out k hlt
      obtain ⟨b, off, ha, hbl, hcs⟩ := HS.out (by omega)
      subst ha
      have hca : wr.cell? ⟨b, off + k, none⟩ = some (.int .u8 (c k)) := by rw [hK.bel.cell hbl]; exact hcs k hlt
      clear hcs
      go_wp2
      go_roundw
      case rel => exact ⟨k + 1, by omega, by go_num, kinds_step hK hlt rfl⟩
      case measure => simp [intOf]; omega
    · have hkn : k = n := by omega
      subst hkn
      obtain ⟨C, hC, hC20⟩ := exec_ex (wr.heap.size + 1)
      rename World => wk
      go_wp2_with fail
      refine oper_build1 86 5 (.tmp 43) rfl (.pointer (some ⟨wk.heap.size + 1, 0, none⟩)) (.agg C) rfl (hC _) ?_
      go_wp2_with fail
      obtain ⟨r1, r2, r3, r4, r5, r6⟩ := ready_m (mask := mask) (A := #[.nilIface, .string { data := #[] }, .slice (some ⟨w.heap.size, 0, none⟩) k k, .map none, .int .i64 0]) hK rfl hC20
      refine (matching_m (wk.heap.size + 2) (wk.heap.size + 1) w.heap.size k wk.heap.size _ (fun i => N + i) c mask _ h r1 r2 r3 r4 Hc.out (by have := hK.size; have := hK.gN; omega) r5 rfl).mono ?_
      rintro e w' ⟨x, vl, rfl, hB⟩
      have hMs : w.heap.size ≤ wk.heap.size := hK.bel.size
      have hbel : Below w.heap.size w w' := by
        refine ⟨hB.kept.os.trans r6.os, hB.kept.tape.trans r6.tape, hB.kept.output.trans r6.output, Nat.le_trans r6.size hB.kept.size, fun j hj => ?_⟩
        rw [hB.kept.block j (by have := r6.size; omega) (by omega)]
        exact r6.block j hj
      generalize (((wk.alloc (.cells #[.int .u64 mask, .slice none 0 0] 56)).alloc (.cells #[.nilIface, .string { data := #[] }, .slice (some ⟨w.heap.size, 0, none⟩) k k, .map none, .int .i64 0] 63)).alloc (.cells C 86)) = wf at hB
      clear r1 r2 r3 r4 r5 r6 hC hC20 hK
      generalize wk.heap.size = M at *
      obtain ⟨f, hf⟩ : ∃ f, f = (fun i => bitB mask (c i)) := ⟨_, rfl⟩
      rw [← hf] at hB
      have Hf : Hid (f = (fun i => bitB mask (c i))) := hf
      have HB : Hid (Both M wf.heap.size mask (logged c k) ((hits f k).map (Value.int .i64)) wf w' vl x) := hB
      clear hf hB
      obtain ⟨i3, hi, hz0, hz1, hz2⟩ := info_parts info3
      go_wp2
      go_loopw [11, 52] (fun m i wr => ∃ q : Nat, q ≤ k ∧ i = .int .i64 q ∧ wr.ownsRow w'.heap.size 3 1 m (hits f q).length ((hits f q).map (Value.int .i64)) ∧ Below w'.heap.size w' wr) (fun _ i _ => k - (intOf i).toNat)
      case atStart => exact ⟨0, Nat.zero_le _, rfl, World.ownsRow_nil _ _ _ _, Below.refl _ _⟩
      case round =>
        obtain ⟨q, hqk, rfl, hown, hbel2⟩ := hrel
        by_cases hlt2 : q < k
        · have hlt2' : (q : Int) < k := by omega
          obtain ⟨c0, c1⟩ := Hc.out q hlt2
          obtain ⟨b, off, ha, hbl, hcs⟩ := HS.out (by omega)
          subst ha
          have hca : wr.cell? ⟨b, off + q, none⟩ = some (.int .u8 (c q)) := by rw [hbel2.cell (by have := hbel.size; simp; omega), hbel.cell hbl]; exact hcs q hlt2
          clear hcs
          have hsz := hbel2.size
          have hle := hits_le f q
          have hfq : (bits .and .u64 (mask / 2 ^ (c q % 64).toNat) 1 == 1) = f q := by rw [Hf.out]; rfl
          cases hb : f q with
          | false =>
            rw [hb] at hfq
            have Hhit : Hid (hits f (q + 1) = hits f q) := by show _ = _; rw [hits_succ, hb]; simp
            clear hb
            go_wp2
            go_roundw
            case rel => exact ⟨q + 1, by omega, by go_num, by rw [Hhit.out]; exact hown, hbel2⟩
            case measure => simp [intOf]; omega
          | true =>
            rw [hb] at hfq
            have Hhit : Hid (hits f (q + 1) = hits f q ++ [(q : Int)]) := by show _ = _; rw [hits_succ, hb]; simp
            clear hb
            go_wp2_with (at_builtin; go_must (refine wpList_append_own _ rfl _ _ 54 rfl w'.heap.size 3 i3 (.int .i64 0) 1 8 Yba.underlying54 hi hz0 hz1 hz2 rfl (by decide) _ _ _ rfl (hown.alloc _) ⟨wr.heap.size, 0, none⟩ 1 1 [.int .i64 (q : Int)] rfl rfl (cell_one_new _ _ _) (by intro u hu; simp at hu; subst hu; rfl) (by unfold maxLen; omega) (by omega) (by simp; omega) ?_))
            intro m' w3 hown' hgrow _
            have R2 : Below w'.heap.size w' w3 := (hbel2.alloc hsz _).grown hgrow (by simp; omega) (fun b hb => (hown.lt b hb).1)
            have HR1 : Hid (w3.ownsRow w'.heap.size 3 1 m' (hits f (q + 1)).length ((hits f (q + 1)).map (Value.int .i64))) := by
              show World.ownsRow _ _ _ _ _ _ _
              rw [Hhit.out]; simpa using hown'
            clear hown' hgrow hown
            go_wp2
            go_roundw
            case rel => exact ⟨q + 1, by omega, by go_num, HR1.out, R2⟩
            case measure => simp [intOf]; omega
        · have hqk : q = k := by omega
          subst hqk
          have hgot : wr.ownsRow wf.heap.size 3 1 x (hits f q).length ((hits f q).map (Value.int .i64)) := by
            have := own_same (w' := wr) HB.out.own fun g hg => hbel2.block g (HB.out.own.lt g hg).2
            simpa using this
          have hlog : LogAt M wf.heap.size mask (logged c q) vl wr := log_same HB.out.log (hbel2.block M (by have := HB.out.log.Mb; have := HB.out.log.bs; omega)) hbel2.size fun g hg => hbel2.block g (HB.out.log.own.lt g hg).2
          obtain ⟨a1, cap1, rfl, g1⟩ := own_form hgot
          obtain ⟨a2, cap2, hu11, g2⟩ := own_form hown
          subst hu11
          have hle := hits_le f q
          have heq : 0 < (hits f q).length → ∃ x1 x2, a1 = some ⟨x1, 0, none⟩ ∧ a2 = some ⟨x2, 0, none⟩ ∧ ∀ i, i < (hits f q).length → wr.cell? ⟨x1, i, none⟩ = some (.int .i64 ((hits f q).getD i 0)) ∧ wr.cell? ⟨x2, i, none⟩ = some (.int .i64 ((hits f q).getD i 0)) := fun hp => by
            obtain ⟨x1, e1, k1⟩ := g1 hp
            obtain ⟨x2, e2, k2⟩ := g2 hp
            exact ⟨x1, x2, e1, e2, fun i hi => ⟨k1 i hi, k2 i hi⟩⟩
          have hbel3 : Below w.heap.size w wr := hbel.trans (hbel2.mono hbel.size)
          have hlown := hlog.own
          have hll : (logged c q).length = ((List.range q).map c).length := by simp [logged]
          have hlm : logged c q = ((List.range q).map c).map (Value.int .i64) := by simp [logged]
          rw [hll, hlm] at hlown
          obtain ⟨a3, cap3, hvl, g3⟩ := own_form hlown
          have hrl : ((List.range q).map c).length = q := by simp
          rw [hrl] at hvl g3
          subst hvl
          have hlc := hlog.l
          have hqq : ((q : Int) != q) = false := by simp
          have Hlog : Hid (0 < q → ∃ g, a3 = some ⟨g, 0, none⟩ ∧ ∀ i, i < q → wr.cell? ⟨g, i, none⟩ = some (.int .i64 (c i))) := fun hp => by
            obtain ⟨g, e, k3⟩ := g3 hp
            refine ⟨g, e, fun i hi => ?_⟩
            rw [k3 i hi]
            simp [hi]
          clear g1 g2 g3 hlown hll hlm hrl hgot hown hlog HB hi hz0 hz1 hz2
          have HE : Hid (0 < (hits f q).length → ∃ x1 x2, a1 = some ⟨x1, 0, none⟩ ∧ a2 = some ⟨x2, 0, none⟩ ∧ ∀ i, i < (hits f q).length → wr.cell? ⟨x1, i, none⟩ = some (.int .i64 ((hits f q).getD i 0)) ∧ wr.cell? ⟨x2, i, none⟩ = some (.int .i64 ((hits f q).getD i 0))) := heq
          clear heq
          go_wp2_with (go_at_call 17; go_must (refine (equal_ints a1 a2 (hits f q).length cap1 cap2 (fun i => (hits f q).getD i 0) _ (by omega) HE.out).mono ?_; rintro e w5 ⟨rfl, nq, rfl⟩))
          go_loop [83] (fun i => ∃ r : Nat, r ≤ q ∧ i = .int .i64 r) (fun i => q - (intOf i).toNat)
          case atStart => exact ⟨0, Nat.zero_le _, rfl⟩
          case round =>
            obtain ⟨r, hrq, rfl⟩ := hrel
            by_cases hlt3 : r < q
            · have hlt3' : (r : Int) < q := by omega
              obtain ⟨c0, c1⟩ := Hc.out r hlt3
              obtain ⟨b, off, ha, hbl, hcs⟩ := HS.out (by omega)
              subst ha
              have hca : wr.cell? ⟨b, off + r, none⟩ = some (.int .u8 (c r)) := by rw [hbel3.cell hbl]; exact hcs r hlt3
              obtain ⟨g, hg, hgc⟩ := Hlog.out (by omega)
              subst hg
              have hgr := hgc r hlt3
              have hne : (c r != c r) = false := by simp
              clear hcs hgc
              go_wp2
              go_round
              case rel => exact ⟨r + 1, by omega, by go_num⟩
              case measure => simp [intOf]; omega
            · have hlt3' : ¬ (r : Int) < q := by omega
              go_wp2
              go_ret
              exact ⟨rfl, below_drewN hbel3 _⟩

end Go.Proofs.Ybulkuws.MLaw
