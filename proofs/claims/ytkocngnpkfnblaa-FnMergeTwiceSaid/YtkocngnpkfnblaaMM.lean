/- seats: P D. Plain facts: the summary of two parts, one behind the other; the longest run, page by page. -/
import Derived.Test.YtkocngnpkfnblaaMA
namespace Go.Proofs.Ytkocngnpkfnblaa
open Go

theorem merge_step {u : Nat → Bool} {L K s m e s' m' e' : Nat} (h : IsSum u L s m e) (h' : IsSum (fun k => u (L + k)) K s' m' e') :
    IsSum u (L + K) (if s = L then s + s' else s) (max (max m (e + s')) m') (if e' = K then e + K else e') := by
  obtain ⟨⟨a1, a2, a3⟩, ⟨⟨j, b1, b2⟩, b3⟩, c1, c2, c3⟩ := h
  obtain ⟨⟨a1', a2', a3'⟩, ⟨⟨j', b1', b2'⟩, b3'⟩, c1', c2', c3'⟩ := h'
  have hin : ∀ k, L ≤ k → (fun k => u (L + k)) (k - L) = u k := fun k hk => by show u (L + (k - L)) = u k; rw [show L + (k - L) = k from by omega]
  refine ⟨?_, ⟨?_, ?_⟩, ?_⟩
  · split
    · refine ⟨by omega, fun k _ hk => ?_, fun hk => ?_⟩
      · by_cases hl : k < L
        · exact a2 k (by omega) (by omega)
        · rw [← hin k (by omega)]; exact a2' _ (by omega) (by omega)
      · rw [← hin _ (by omega), show 0 + (s + s') - L = 0 + s' from by omega]
        exact a3' (by omega)
    · exact ⟨by omega, a2, fun _ => a3 (by omega)⟩
  · rcases Nat.le_total (max m (e + s')) m' with hle | hle
    · rw [Nat.max_eq_right hle]
      exact ⟨L + j', by omega, fun k h1 h2 => by rw [← hin k (by omega)]; exact b2' _ (by omega) (by omega)⟩
    · rw [Nat.max_eq_left hle]
      rcases Nat.le_total m (e + s') with hle2 | hle2
      · rw [Nat.max_eq_right hle2]
        refine ⟨L - e, by omega, fun k h1 h2 => ?_⟩
        by_cases hl : k < L
        · exact c2 k (by omega) (by omega)
        · rw [← hin k (by omega)]; exact a2' _ (by omega) (by omega)
      · rw [Nat.max_eq_left hle2]
        exact ⟨j, by omega, b2⟩
  · intro i n ⟨h1, h2⟩
    have m1 : m ≤ max (max m (e + s')) m' := by omega
    have m2 : e + s' ≤ max (max m (e + s')) m' := by omega
    have m3 : m' ≤ max (max m (e + s')) m' := by omega
    by_cases hl : i + n ≤ L
    · exact Nat.le_trans (b3 i n ⟨hl, h2⟩) m1
    · by_cases hi : L ≤ i
      · refine Nat.le_trans (b3' (i - L) n ⟨by omega, fun k k1 k2 => ?_⟩) m3
        exact h2 (L + k) (by omega) (by omega)
      · refine Nat.le_trans ?_ m2
        have e1 : L - e ≤ i := by
          apply Nat.le_of_not_lt
          intro hlt
          have := h2 (L - 1 - e) (by omega) (by omega)
          rw [c3 (by omega)] at this
          cases this
        have e2 : i + n ≤ L + s' := by
          apply Nat.le_of_not_lt
          intro hlt
          have h3 := a3' (by omega)
          rw [Nat.zero_add] at h3
          have := h2 (L + s') (by omega) (by omega)
          rw [show u (L + s') = true from h3] at this
          cases this
        omega
  · split
    · refine ⟨by omega, fun k h1 h2 => ?_, fun h1 => ?_⟩
      · by_cases hl : k < L
        · exact c2 k (by omega) (by omega)
        · rw [← hin k (by omega)]; exact c2' _ (by omega) (by omega)
      · rw [show L + K - 1 - (e + K) = L - 1 - e from by omega]
        exact c3 (by omega)
    · refine ⟨by omega, fun k h1 h2 => ?_, fun h1 => ?_⟩
      · rw [← hin k (by omega)]; exact c2' _ (by omega) (by omega)
      · rw [← hin _ (by omega), show L + K - 1 - e' - L = K - 1 - e' from by omega]
        exact c3' (by omega)

/-- the longest run that begins below k -/
def MostTo (u : Nat → Bool) (L k m : Nat) : Prop := (∃ i, FreeAt u L i m) ∧ ∀ i n, i < k → FreeAt u L i n → n ≤ m
theorem MostTo.zero (u : Nat → Bool) (L : Nat) : MostTo u L 0 0 := ⟨⟨0, by omega, Clear.zero _ _⟩, fun i n h => by omega⟩
theorem MostTo.step {u : Nat → Bool} {L k m r : Nat} (h : MostTo u L k m) (hr : IsRun u L k r) : MostTo u L (k + 1) (max m r) := by
  obtain ⟨h1, h2⟩ := h
  obtain ⟨r1, r2, r3⟩ := hr
  refine ⟨?_, fun i n hi hf => ?_⟩
  · rcases Nat.le_total m r with hle | hle
    · rw [Nat.max_eq_right hle]; exact ⟨k, r1, r2⟩
    · rw [Nat.max_eq_left hle]; exact h1
  · by_cases e : i = k
    · subst e
      have : n ≤ r := by
        apply Nat.le_of_not_lt
        intro hlt
        have := hf.2 (i + r) (by omega) (by omega)
        rw [r3 (by have := hf.1; omega)] at this
        cases this
      omega
    · have := h2 i n (by omega) hf
      omega
theorem MostTo.all {u : Nat → Bool} {L m : Nat} (h : MostTo u L L m) : IsMost u L m :=
  ⟨h.1, fun i n hf => by
    by_cases e : i < L
    · exact h.2 i n e hf
    · have := hf.1; omega⟩
theorem MostTo.le {u : Nat → Bool} {L k m : Nat} (h : MostTo u L k m) : m ≤ L := by
  obtain ⟨⟨i, h1, _⟩, _⟩ := h; omega
end Go.Proofs.Ytkocngnpkfnblaa
