/- seats: D. Plain facts: what a search tells beside the first run. -/
import Derived.Test.YtkocngnpkfnblaaDoorMF
namespace Go.Proofs.YtkocngnpkfnblaaDoor
open Go

theorem Found.want {u : Nat → Bool} {n r q r0 : Nat} (hn : 1 ≤ n) (h : Found u n r q) (h0 : IsFirst u 512 n r0) : (r0 = 512 ∧ r = 18446744073709551615) ∨ (r0 < 512 ∧ r = r0 ∧ q < 512 ∧ Seen u 512 q) := by
  rcases h with ⟨h1, h2, h3⟩ | ⟨h1, h2⟩
  · obtain rfl := h2.unique h0
    refine .inr ⟨h1, rfl, ?_, h3⟩
    rcases h3 with ⟨_, e⟩ | ⟨e, _⟩
    · rcases h2 with ⟨_, hf, _⟩ | ⟨e2, _⟩
      · have := hf.2 r (Nat.le_refl _) (by omega)
        rw [e r h1] at this
        cases this
      · omega
    · exact e
  · have := h2.first.unique h0
    exact .inl ⟨this.symm, h1⟩
theorem Seen.want {u : Nat → Bool} {q p : Nat} (h : Seen u 512 q) (h0 : IsFirst u 512 1 p) : (p = 512 ∧ q = 18446744073709551615) ∨ (p < 512 ∧ q = p) := by
  rcases h with ⟨h1, h2⟩ | ⟨h1, h2, h3⟩
  · rcases h0 with ⟨a, c, _⟩ | ⟨a, _⟩
    · have := c.2 p (Nat.le_refl _) (by omega)
      rw [h2 p a] at this
      cases this
    · exact .inl ⟨a, h1⟩
  · right
    have hq : FreeAt u 512 q 1 := ⟨by omega, fun k a c => by rwa [show k = q from by omega]⟩
    rcases h0 with ⟨a, c, d⟩ | ⟨a, d⟩
    · refine ⟨a, ?_⟩
      rcases Nat.lt_trichotomy q p with hlt | he | hlt
      · exact absurd hq (d q hlt)
      · exact he
      · have := c.2 p (Nat.le_refl _) (by omega)
        rw [h3 p hlt] at this
        cases this
    · exact absurd hq (d q h1)
theorem Found.same {u : Nat → Bool} {n r q r' q' : Nat} (hn : 1 ≤ n) (h : Found u n r q) (h' : Found u n r' q') :
    (r = 18446744073709551615 ∧ r' = 18446744073709551615 ∧ NoRun u 512 n) ∨ (r < 512 ∧ r' = r ∧ q' = q ∧ q < 512 ∧ IsFirst u 512 n r ∧ Seen u 512 q) := by
  rcases h with ⟨h1, h2, h3⟩ | ⟨h1, h2⟩
  · rcases h'.want hn h2 with ⟨a, _⟩ | ⟨a, rfl, c, d⟩
    · omega
    · refine .inr ⟨h1, rfl, ?_, ?_⟩
      · rcases h3 with ⟨e, f⟩ | ⟨e, f, g⟩
        · rcases d with ⟨d1, _⟩ | ⟨_, d2, _⟩
          · omega
          · rw [f q' c] at d2; cases d2
        · rcases d with ⟨d1, _⟩ | ⟨d1, d2, d3⟩
          · omega
          · rcases Nat.lt_trichotomy q q' with hlt | he | hlt
            · rw [d3 q hlt] at f; cases f
            · exact he.symm
            · rw [g q' hlt] at d2; cases d2
      · rcases h3 with ⟨e, f⟩ | ⟨e, f, g⟩
        · rcases d with ⟨d1, _⟩ | ⟨_, d2, _⟩
          · omega
          · rw [f q' c] at d2; cases d2
        · exact ⟨e, h2, .inr ⟨e, f, g⟩⟩
  · rcases h' with ⟨a, b, _⟩ | ⟨a, _⟩
    · rcases b with ⟨_, hf, _⟩ | ⟨e, _⟩
      · exact absurd hf (h2 r')
      · omega
    · exact .inl ⟨h1, a, h2⟩
theorem IsFirst.free {u : Nat → Bool} {n r : Nat} (h : IsFirst u 512 n r) (hr : r < 512) : FreeAt u 512 r n := by
  rcases h with ⟨_, h, _⟩ | ⟨h, _⟩
  · exact h
  · omega

/-- a run of n free pages is there just if one of the longest length .. -/
theorem Found.most {u : Nat → Bool} {n r q m : Nat} (h : Found u n r q) (hm : IsMost u 512 m) : (r < 512 ∧ n ≤ m) ∨ (r = 18446744073709551615 ∧ m < n) := by
  obtain ⟨⟨j, hj⟩, hmax⟩ := hm
  rcases h with ⟨h1, h2, _⟩ | ⟨h1, h2⟩
  · rcases h2 with ⟨_, hf, _⟩ | ⟨e, _⟩
    · exact .inl ⟨h1, hmax r n hf⟩
    · omega
  · refine .inr ⟨h1, ?_⟩
    apply Nat.lt_of_not_le
    intro hle
    exact h2 j ⟨by have := hj.1; omega, hj.2.mono (Nat.le_refl _) (by omega)⟩
end Go.Proofs.YtkocngnpkfnblaaDoor
