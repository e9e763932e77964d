/-
  The spans, with no Go in sight: a list of (distance from the end before it, length); how it is laid as varints, which offsets it spells, what one step makes of it.
-/
import Derived.Lib.Varint
namespace Go.Proofs.Ybulkuws.SpanPlain

def u64 (d : Int) : Nat := (d % 18446744073709551616).toNat
theorem u64_lt (d : Int) : u64 d < 18446744073709551616 := by unfold u64; omega
theorem u64_cast (d : Int) : ((u64 d : Nat) : Int) = d % 18446744073709551616 := by unfold u64; omega

def encS : List (Int × Nat) → List UInt8
  | [] => []
  | s :: r => Lib.uvarint (u64 s.1) ++ (Lib.uvarint s.2 ++ encS r)
def endS (e : Int) : List (Int × Nat) → Int
  | [] => e
  | s :: r => endS (e + s.1 + s.2) r
def wantS (e : Int) : List (Int × Nat) → List Int
  | [] => []
  | s :: r => (e + s.1) :: (e + s.1 + s.2) :: wantS (e + s.1 + s.2) r
def lastS (L : List (Int × Nat)) : Nat :=
  match L.getLast? with
  | none => 0
  | some s => (encS L.dropLast).length + (Lib.uvarint (u64 s.1)).length
def stepS (L : List (Int × Nat)) (gap : Int) (size : Nat) : List (Int × Nat) :=
  match L.getLast? with
  | none => [(gap, size)]
  | some s => if gap = 0 then L.dropLast ++ [(s.1, s.2 + size)] else L ++ [(gap, size)]
def runS (steps : List (Int × Nat)) : List (Int × Nat) := steps.foldl (fun L s => stepS L s.1 s.2) []

theorem encS_append : ∀ (a b : List (Int × Nat)), encS (a ++ b) = encS a ++ encS b
  | [], _ => rfl
  | s :: r, b => by simp [encS, encS_append r b]
theorem encS_snoc (L : List (Int × Nat)) (d : Int) (n : Nat) : encS (L ++ [(d, n)]) = encS L ++ (Lib.uvarint (u64 d) ++ Lib.uvarint n) := by
  rw [encS_append]; simp [encS]
theorem endS_append : ∀ (e : Int) (a b : List (Int × Nat)), endS e (a ++ b) = endS (endS e a) b
  | _, [], _ => rfl
  | e, s :: r, b => by simp [endS, endS_append _ r b]
theorem endS_snoc (e : Int) (L : List (Int × Nat)) (d : Int) (n : Nat) : endS e (L ++ [(d, n)]) = endS e L + d + n := by
  rw [endS_append]; rfl
theorem wantS_append : ∀ (e : Int) (a b : List (Int × Nat)), wantS e (a ++ b) = wantS e a ++ wantS (endS e a) b
  | _, [], _ => rfl
  | e, s :: r, b => by simp [wantS, endS, wantS_append _ r b]
theorem wantS_snoc (e : Int) (L : List (Int × Nat)) (d : Int) (n : Nat) : wantS e (L ++ [(d, n)]) = wantS e L ++ [endS e L + d, endS e L + d + n] := by
  rw [wantS_append]; rfl
theorem wantS_length : ∀ (e : Int) (L : List (Int × Nat)), (wantS e L).length = 2 * L.length
  | _, [] => rfl
  | e, s :: r => by simp [wantS, wantS_length _ r]; omega
theorem lastS_snoc (L : List (Int × Nat)) (d : Int) (n : Nat) : lastS (L ++ [(d, n)]) = (encS L).length + (Lib.uvarint (u64 d)).length := by
  simp [lastS]
theorem lastS_nil : lastS [] = 0 := rfl
theorem stepS_nil (gap : Int) (size : Nat) : stepS [] gap size = [(gap, size)] := rfl
theorem stepS_merge (L : List (Int × Nat)) (d : Int) (n size : Nat) : stepS (L ++ [(d, n)]) 0 size = L ++ [(d, n + size)] := by
  simp [stepS]
theorem stepS_new (L : List (Int × Nat)) (gap : Int) (size : Nat) (h : L = [] ∨ gap ≠ 0) : stepS L gap size = L ++ [(gap, size)] := by
  rcases List.eq_nil_or_concat L with rfl | ⟨l, b, rfl⟩
  · rfl
  · rcases h with h | h
    · simp at h
    · simp [stepS, h]
theorem encS_pos (L : List (Int × Nat)) (h : L ≠ []) : 0 < (encS L).length := by
  cases L with
  | nil => exact absurd rfl h
  | cons s r =>
    have := Lib.uvarint_pos (u64 s.1)
    simp [encS]; omega
theorem runS_snoc (S : List (Int × Nat)) (g : Int) (n : Nat) : runS (S ++ [(g, n)]) = stepS (runS S) g n := by
  simp [runS]

theorem endS_step (L : List (Int × Nat)) (gap : Int) (size : Nat) : endS 0 (stepS L gap size) = endS 0 L + gap + size := by
  rcases List.eq_nil_or_concat L with rfl | ⟨l, b, rfl⟩
  · rfl
  · obtain ⟨d, n⟩ := b
    rw [List.concat_eq_append]
    by_cases h : gap = 0
    · subst h
      rw [stepS_merge, endS_snoc, endS_snoc]
      omega
    · rw [stepS_new _ _ _ (.inr h), endS_snoc]

/-- What k steps of small numbers keep small. -/
structure Small (k : Nat) (L : List (Int × Nat)) : Prop where
  len : L.length ≤ k
  each : ∀ s ∈ L, -32768 ≤ s.1 ∧ s.1 ≤ 32767 ∧ s.2 ≤ 65535 * k
  lo : -32768 * (k : Int) ≤ endS 0 L
  hi : endS 0 L ≤ 98302 * (k : Int)

theorem small_nil : Small 0 [] := ⟨by simp, by simp, by simp [endS], by simp [endS]⟩
theorem small_step {k : Nat} {L : List (Int × Nat)} (h : Small k L) (gap : Int) (size : Nat) (h1 : -32768 ≤ gap) (h2 : gap ≤ 32767) (h3 : size ≤ 65535) : Small (k + 1) (stepS L gap size) := by
  obtain ⟨hl, he, hlo, hhi⟩ := h
  have hend := endS_step L gap size
  refine ⟨?_, ?_, by omega, by omega⟩
  · rcases List.eq_nil_or_concat L with rfl | ⟨l, b, rfl⟩
    · simp [stepS_nil]
    · obtain ⟨d, n⟩ := b
      rw [List.concat_eq_append] at hl ⊢
      by_cases h : gap = 0
      · subst h
        rw [stepS_merge]
        simp at hl ⊢
        omega
      · rw [stepS_new _ _ _ (.inr h)]
        simp at hl ⊢
        omega
  · intro s hs
    rcases List.eq_nil_or_concat L with rfl | ⟨l, b, rfl⟩
    · simp [stepS_nil] at hs
      subst hs
      exact ⟨h1, h2, by simp; omega⟩
    · obtain ⟨d, n⟩ := b
      rw [List.concat_eq_append] at he hs
      by_cases h : gap = 0
      · subst h
        rw [stepS_merge] at hs
        rcases List.mem_append.1 hs with hs | hs
        · have := he s (List.mem_append_left _ hs)
          omega
        · have hb := he (d, n) (by simp)
          simp at hs
          subst hs
          simp at hb ⊢
          omega
      · rw [stepS_new _ _ _ (.inr h)] at hs
        rcases List.mem_append.1 hs with hs | hs
        · have := he s hs
          omega
        · simp at hs
          subst hs
          simp
          omega

theorem encS_len : ∀ (L : List (Int × Nat)), (∀ s ∈ L, s.2 < 18446744073709551616) → (encS L).length ≤ 20 * L.length
  | [], _ => by simp [encS]
  | s :: r, h => by
    have h1 := Lib.uvarint_length64 (u64_lt s.1)
    have h2 := Lib.uvarint_length64 (h s (by simp))
    have h3 := encS_len r (fun t ht => h t (by simp [ht]))
    simp [encS]
    omega

theorem small_enc {k : Nat} {L : List (Int × Nat)} (h : Small k L) (hk : k ≤ 1024) : (encS L).length ≤ 20480 := by
  have := encS_len L (fun s hs => by have := (h.each s hs).2.2; omega)
  have := h.len
  omega

theorem small_mid {k : Nat} {L A B : List (Int × Nat)} {d : Int} {n : Nat} (h : Small k L) (hL : L = A ++ (d, n) :: B) : -32768 ≤ d ∧ d ≤ 32767 ∧ n ≤ 65535 * k := h.each (d, n) (by rw [hL]; simp)

end Go.Proofs.Ybulkuws.SpanPlain
