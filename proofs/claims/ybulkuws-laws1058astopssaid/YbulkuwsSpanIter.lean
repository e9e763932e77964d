import Derived.Test.YbulkuwsSpanBuild
namespace Go.Proofs.Ybulkuws.SpanIter
open Go.RowKit SpanPlain SpanUv SpanAdd SpanMerge SpanBuild

theorem endS_bound : ∀ (L : List (Int × Nat)) (e : Int) (M : Nat), (∀ s ∈ L, -32768 ≤ s.1 ∧ s.1 ≤ 32767 ∧ s.2 ≤ M) → e - 32768 * L.length ≤ endS e L ∧ endS e L ≤ e + (32767 + M) * L.length
  | [], e, M, _ => by simp [endS]
  | s :: r, e, M, h => by
    have h1 := h s (by simp)
    have h2 := endS_bound r (e + s.1 + s.2) M (fun t ht => h t (by simp [ht]))
    simp only [endS, List.length_cons]
    have e1 : (32767 + (M : Int)) * ((r.length + 1 : Nat) : Int) = (32767 + (M : Int)) * r.length + (32767 + M) := by
      rw [Int.natCast_add, Int.mul_add]; simp
    omega

/-- The spans from the k-th on. -/
theorem split_at (L : List (Int × Nat)) (k : Nat) (h : k < L.length) : ∃ d n, L = L.take k ++ (d, n) :: L.drop (k + 1) ∧ L.take (k + 1) = L.take k ++ [(d, n)] ∧ L[k]? = some (d, n) := by
  refine ⟨(L[k]).1, (L[k]).2, ?_, ?_, ?_⟩
  · rw [show ((L[k]).1, (L[k]).2) = L[k] from rfl, ← List.drop_eq_getElem_cons h, List.take_append_drop]
  · rw [show ((L[k]).1, (L[k]).2) = L[k] from rfl, List.take_succ_eq_append_getElem h]
  · rw [show ((L[k]).1, (L[k]).2) = L[k] from rfl, List.getElem?_eq_getElem h]

/-- Where the k-th span starts and ends. -/
def startOf (L : List (Int × Nat)) (k : Nat) : Int := endS 0 (L.take k) + ((L[k]?).map (·.1)).getD 0
def stopOf (L : List (Int × Nat)) (k : Nat) : Int := endS 0 (L.take (k + 1))

/-- The number of a slice's elements. -/
def lenOf : Value → Nat | .slice _ n _ => n | _ => 0

theorem row_from {w : World} {g : Nat} {A X : List UInt8} (h : ∀ j (hj : j < (A ++ X).length), w.cell? ⟨g, j, none⟩ = some (.int .u8 ((A ++ X)[j]).toNat)) : ∀ j (hj : j < X.length), w.cell? ⟨g, A.length + j, none⟩ = some (.int .u8 (X[j]).toNat) := by
  intro j hj
  have := h (A.length + j) (by simp; omega)
  simpa using this

theorem wrap_small (x : Int) (h1 : -1000000000000 ≤ x) (h2 : x ≤ 1000000000000) : wrap64 x = x := by unfold wrap64; omega
theorem wrap_gap (d : Int) (h1 : -32768 ≤ d) (h2 : d ≤ 32767) : wrap64 ((u64 d : Nat) : Int) = d := by rw [u64_cast]; unfold wrap64; omega

set_option maxRecDepth 100000 in
set_option maxHeartbeats 2000000 in
/-- The iterator that 'all' hands back, called at the yield function 12: J says what holds behind k yields. -/
theorem iter12 (G PB g cap : Nat) (a : Option Addr) (L : List (Int × Nat)) (J : Nat → World → Prop) (c : Nat → Bool) (w : World) (hS : Small 1024 L)
    (h0 : J 0 w) (ha : L ≠ [] → a = some ⟨g, 0, none⟩)
    (hrow : ∀ k w, J k w → ∀ j (hj : j < (encS L).length), w.cell? ⟨g, j, none⟩ = some (.int .u8 ((encS L)[j]).toNat)) (hcap : (encS L).length ≤ cap)
    (hp : w.cell? ⟨PB, 0, none⟩ = some (.slice a (encS L).length cap))
    (hy : ∀ k, k < L.length → ∀ w, J k w → Calls Yba.prog 12 #[.int .i64 (startOf L k), .int .i64 (stopOf L k), .pointer (some ⟨G, 0, none⟩)] w fun e w' => e = .returned (.bool (c k)) ∧ J (k + 1) w') :
    Calls Yba.prog 19 #[.func (.func 12) #[] #[.pointer (some ⟨G, 0, none⟩)], .pointer (some ⟨PB, 0, none⟩)] w fun e w' => e = .returned (.tuple #[]) ∧ ∃ k, k ≤ L.length ∧ J k w' ∧ (∀ i, i + 1 < k → c i = true) ∧ (k = L.length ∨ ∃ i, k = i + 1 ∧ c i = false) := by
  have hlen := small_enc hS (by omega)
  go_enter Yba.func19, Yba.ntmps19
  go_wp2
  have Hrow : Hid (∀ k w, J k w → ∀ j (hj : j < (encS L).length), w.cell? ⟨g, j, none⟩ = some (.int .u8 ((encS L)[j]).toNat)) := hrow
  have Hy : Hid (∀ k, k < L.length → ∀ w, J k w → Calls Yba.prog 12 #[.int .i64 (startOf L k), .int .i64 (stopOf L k), .pointer (some ⟨G, 0, none⟩)] w fun e w' => e = .returned (.bool (c k)) ∧ J (k + 1) w') := hy
  have HS : Hid (Small 1024 L) := hS
  clear hrow hy hS hp
  go_loopw [3, 4] (fun ev bv wr => ∃ (k : Nat) (ad : Option Addr) (cp : Nat), k ≤ L.length ∧ ev = .int .i64 (endS 0 (L.take k)) ∧ bv = .slice ad (encS (L.drop k)).length cp ∧ (k < L.length → ad = some ⟨g, (encS (L.take k)).length, none⟩) ∧ (encS (L.drop k)).length ≤ cp ∧ J k wr ∧ ∀ i, i < k → c i = true) (fun _ bv _ => lenOf bv)
  case atStart => exact ⟨0, a, cap, Nat.zero_le _, rfl, rfl, fun h => by rw [ha (by intro e; simp [e] at h)]; rfl, hcap, h0, fun i hi => by omega⟩
  case round =>
    obtain ⟨k, ad, cp, hkL, rfl, rfl, had, hcp, hJ, hci⟩ := hrel
    by_cases hlt : k < L.length
    · obtain ⟨d, n, hL, htake, hget⟩ := split_at L k hlt
      obtain rfl := had hlt
      have hdrop : L.drop k = (d, n) :: L.drop (k + 1) := by
        conv => lhs; rw [hL]
        rw [List.drop_left' (by simp; omega)]
      have henc : encS (L.drop k) = Lib.uvarint (u64 d) ++ (Lib.uvarint n ++ encS (L.drop (k + 1))) := by rw [hdrop]; rfl
      have hencL : encS L = encS (L.take k) ++ (Lib.uvarint (u64 d) ++ (Lib.uvarint n ++ encS (L.drop (k + 1)))) := by rw [← henc, ← encS_append, List.take_append_drop]
      have hencL2 : encS L = (encS (L.take k) ++ Lib.uvarint (u64 d)) ++ (Lib.uvarint n ++ encS (L.drop (k + 1))) := by rw [hencL]; simp
      have hr1 := Hrow.out k wr hJ
      have hr2 := hr1
      rw [hencL] at hr1
      rw [hencL2] at hr2
      have hrow1 := row_from hr1
      have hrow2 := row_from hr2
      have hsm := HS.out.each (d, n) (by rw [hL]; simp)
      have hd1 : -32768 ≤ d := hsm.1
      have hd2 : d ≤ 32767 := hsm.2.1
      have hn1 : n ≤ 67107840 := by have := hsm.2.2; simp at this; omega
      have hbd := endS_bound (L.take k) 0 67107840 (fun s hs => by have := HS.out.each s (List.mem_of_mem_take hs); omega)
      have htl : (L.take k).length = k := by simp; omega
      rw [htl] at hbd
      have hk24 : k ≤ 1024 := by have := HS.out.len; omega
      have hE1 : -100000000000 ≤ endS 0 (L.take k) := by omega
      have hE2 : endS 0 (L.take k) ≤ 100000000000 := by omega
      have hstart : startOf L k = endS 0 (L.take k) + d := by unfold startOf; rw [hget]; rfl
      have hstop : stopOf L k = endS 0 (L.take k) + d + n := by unfold stopOf; rw [htake, endS_snoc]
      have hcall := Hy.out k hlt wr hJ
      rw [hstart, hstop] at hcall
      have hstopE : endS 0 (L.take (k + 1)) = endS 0 (L.take k) + d + n := hstop
      have hx1 := u64_lt d
      have HW2 : Hid (wrap64 (endS 0 (L.take k) + d + n) = endS 0 (L.take k) + d + n) := wrap_small _ (by omega) (by omega)
      have HW1 : Hid (wrap64 (endS 0 (L.take k) + d) = endS 0 (L.take k) + d) := wrap_small _ (by omega) (by omega)
      have HW : Hid (wrap64 ((u64 d : Nat) : Int) = d) := wrap_gap d hd1 hd2
      have hl1 := Lib.uvarint_pos (u64 d)
      have hl2 := Lib.uvarint_pos n
      have hl1' := Lib.uvarint_length64 hx1
      have hl2' := Lib.uvarint_length64 (x := n) (by omega)
      have hlenk : (encS (L.drop k)).length = (Lib.uvarint (u64 d)).length + ((Lib.uvarint n).length + (encS (L.drop (k + 1))).length) := by rw [henc]; simp
      have hoA : (encS (L.take k) ++ Lib.uvarint (u64 d)).length = (encS (L.take k)).length + (Lib.uvarint (u64 d)).length := by simp
      rw [hoA] at hrow2
      have hoB : (encS (L.take (k + 1))).length = (encS (L.take k)).length + ((Lib.uvarint (u64 d)).length + (Lib.uvarint n).length) := by rw [htake, encS_snoc]; simp
      have Hcall : Hid (Calls Yba.prog 12 #[.int .i64 (endS 0 (L.take k) + d), .int .i64 (endS 0 (L.take k) + d + n), .pointer (some ⟨G, 0, none⟩)] wr fun e w' => e = .returned (.bool (c k)) ∧ J (k + 1) w') := hcall
      clear hcall hr1 hr2 hencL hencL2 henc hdrop hL htake hget hstart hstop hbd htl hsm hoA
      generalize hT : (encS (L.drop k)).length = T at *
      generalize hR : (encS (L.drop (k + 1))).length = R at *
      generalize hO : (encS (L.take k)).length = o at *
      generalize hO' : (encS (L.take (k + 1))).length = o' at *
      generalize hEE : endS 0 (L.take k) = E at *
      generalize hE' : endS 0 (L.take (k + 1)) = E' at *
      generalize hX : u64 d = X at *
      generalize hV1 : Lib.uvarint X = V1 at *
      generalize hV2 : Lib.uvarint n = V2 at *
      have HV1 : Hid (Lib.uvarint X = V1) := hV1
      have HV2 : Hid (Lib.uvarint n = V2) := hV2
      have HT : Hid (T = V1.length + (V2.length + R)) := hlenk
      have Hrow1 : Hid (∀ j (hj : j < (V1 ++ (V2 ++ encS (L.drop (k + 1)))).length), wr.cell? ⟨g, o + j, none⟩ = some (.int .u8 ((V1 ++ (V2 ++ encS (L.drop (k + 1))))[j]).toNat)) := hrow1
      have Hrow2 : Hid (∀ j (hj : j < (V2 ++ encS (L.drop (k + 1))).length), wr.cell? ⟨g, o + V1.length + j, none⟩ = some (.int .u8 ((V2 ++ encS (L.drop (k + 1)))[j]).toNat)) := hrow2
      have HR : Hid ((encS (L.drop (k + 1))).length = R) := hR
      have HO' : Hid (o' = o + (V1.length + V2.length)) := hoB
      have HEE' : Hid (E' = E + d + n) := hstopE
      have HE'' : Hid (endS 0 (L.take (k + 1)) = E') := hE'
      have HO'' : Hid ((encS (L.take (k + 1))).length = o') := hO'
      clear hT hR hO hO' hEE hE' hX hV1 hV2 hlenk hrow1 hrow2 hoB hstopE had
      have hTp : (0 : Int) < T := by have := HT.out; omega
      go_wp2_with fail
      have hc1 := Uv.uv_dec g o T cp X (V2 ++ encS (L.drop (k + 1))) wr hx1 (by rw [HV1.out]; simp [HT.out, HR.out]) (by rw [HV1.out]; exact Hrow1.out)
      rw [HV1.out] at hc1
      refine hc1.mono ?_
      clear hc1
      rintro e w' ⟨rfl, hww⟩
      obtain rfl := hww.symm
      have hl1T : (V1.length : Int) ≤ T := by have := HT.out; omega
      have hl1T' : V1.length ≤ T := by omega
      have hncp : ¬ cp = V1.length := by have := HT.out; omega
      go_wp2_with fail
      have hc2 := Uv.uv_dec g (o + V1.length) (T - V1.length) (cp - V1.length) n (encS (L.drop (k + 1))) wr (by omega) (by rw [HV2.out]; have := HT.out; have := HR.out; simp; omega) (by rw [HV2.out]; exact Hrow2.out)
      rw [HV2.out] at hc2
      refine hc2.mono ?_
      clear hc2
      rintro e w' ⟨rfl, hww⟩
      obtain rfl := hww.symm
      obtain ⟨l12, hl12⟩ : ∃ l12, V1.length + V2.length = l12 := ⟨_, rfl⟩
      have hsum : (V1.length : Int) + V2.length = l12 := by omega
      have hl2T : (l12 : Int) ≤ T := by have := HT.out; omega
      have hl2T' : l12 ≤ T := by omega
      have Hl12 : Hid (V1.length + V2.length = l12) := hl12
      clear hl12
      have hTR : R = T - l12 := by have h1 := HT.out; have h2 := Hl12.out; omega
      have hT0 : l12 ≤ T ∧ 0 < l12 := by have h1 := HT.out; have h2 := Hl12.out; omega
      have HTR : Hid (R = T - l12) := hTR
      clear hTR
      by_cases hend : cp = l12
      · subst hend
        have hRz : cp - cp = 0 := by omega
        have hTcp : T = cp := by have := hT0.1; omega
        subst hTcp
        go_wp2_with fail
        rw [HW.out, HW1.out, HW2.out]
        refine (Hcall.out).mono ?_
        rintro e w' ⟨he, hJ'⟩
        cases hb : c k with
        | false =>
          rw [hb] at he
          subst he
          have Hb : Hid (c k = false) := hb
          clear hb
          go_wp2
          first | go_end0 | refine bodyPost_ret (results_none rfl _ _ _) rfl ?_
          exact ⟨rfl, k + 1, by omega, hJ', fun i hi => hci i (by omega), .inr ⟨k, rfl, Hb.out⟩⟩
        | true =>
          rw [hb] at he
          subst he
          have Hb : Hid (c k = true) := hb
          clear hb
          go_wp2
          go_roundw
          case rel =>
            refine ⟨k + 1, some ⟨g, o, none⟩, 0, by omega, by rw [HE''.out, HEE'.out], by rw [HR.out, HTR.out, hRz], fun h => ?_, ?_, hJ', fun i hi => ?_⟩
            · exact absurd (encS_pos (L.drop (k + 1)) (by intro e; have := congrArg List.length e; simp at this; omega)) (by rw [HR.out]; have := HTR.out; omega)
            · rw [HR.out]; have := HTR.out; omega
            · rcases Nat.lt_succ_iff_lt_or_eq.1 hi with h | h
              · exact hci i h
              · rw [h]; exact Hb.out
          case measure => simp [lenOf]; omega
      · have hlt12 : l12 < cp := by have := hT0.1; omega
        go_wp2_with fail
        rw [HW.out, HW1.out, HW2.out]
        refine (Hcall.out).mono ?_
        rintro e w' ⟨he, hJ'⟩
        cases hb : c k with
        | false =>
          rw [hb] at he
          subst he
          have Hb : Hid (c k = false) := hb
          clear hb
          go_wp2
          first | go_end0 | refine bodyPost_ret (results_none rfl _ _ _) rfl ?_
          exact ⟨rfl, k + 1, by omega, hJ', fun i hi => hci i (by omega), .inr ⟨k, rfl, Hb.out⟩⟩
        | true =>
          rw [hb] at he
          subst he
          have Hb : Hid (c k = true) := hb
          clear hb
          go_wp2
          go_roundw
          case rel =>
            refine ⟨k + 1, _, _, by omega, by rw [HE''.out, HEE'.out], by rw [HR.out, HTR.out], fun h => ?_, ?_, hJ', fun i hi => ?_⟩
            · rw [HO''.out, HO'.out, Hl12.out]
            · rw [HR.out]; have := HTR.out; omega
            · rcases Nat.lt_succ_iff_lt_or_eq.1 hi with h | h
              · exact hci i h
              · rw [h]; exact Hb.out
          case measure => simp [lenOf]; omega
    · have hkL' : k = L.length := by omega
      subst hkL'
      have hz : (encS (L.drop L.length)).length = 0 := by simp [encS]
      generalize (encS (L.drop L.length)).length = T at *
      subst hz
      clear Hrow Hy
      go_wp2
      first | go_end0 | refine bodyPost_ret (results_none rfl _ _ _) rfl ?_
      exact ⟨rfl, L.length, Nat.le_refl _, hJ, fun i hi => hci i (by omega), .inl rfl⟩


end Go.Proofs.Ybulkuws.SpanIter
