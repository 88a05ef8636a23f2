/- seats: P D. Plain facts: every row of pages has a summary; summaries of pages that are alike; pages as lists. -/
import Derived.Test.YtkocngnpkfnblaaMM
import Derived.Test.YtkocngnpkfnblaaMP
namespace Go.Proofs.Ytkocngnpkfnblaa
open Go

theorem run_exists (u : Nat → Bool) (L : Nat) : ∀ d i, i + d = L → ∃ r, IsRun u L i r
  | 0, i, h => ⟨0, by omega, Clear.zero _ _, fun h => by omega⟩
  | d + 1, i, h => by
    cases hb : u i
    · obtain ⟨r, r1, r2, r3⟩ := run_exists u L d (i + 1) (by omega)
      refine ⟨r + 1, by omega, fun k a c => ?_, fun h => ?_⟩
      · by_cases e : k = i
        · subst e; exact hb
        · exact r2 k (by omega) (by omega)
      · rw [show i + (r + 1) = i + 1 + r from by omega]; exact r3 (by omega)
    · exact ⟨0, by omega, Clear.zero _ _, fun _ => hb⟩
theorem tail_exists (u : Nat → Bool) : ∀ L, ∃ c, IsTail u L c
  | 0 => ⟨0, by omega, Clear.zero _ _, fun h => by omega⟩
  | L + 1 => by
    cases hb : u L
    · obtain ⟨c, c1, c2, c3⟩ := tail_exists u L
      refine ⟨c + 1, by omega, fun k a e => ?_, fun h => ?_⟩
      · by_cases e : k = L
        · subst e; exact hb
        · exact c2 k (by omega) (by omega)
      · rw [show L + 1 - 1 - (c + 1) = L - 1 - c from by omega]; exact c3 (by omega)
    · exact ⟨0, by omega, Clear.zero _ _, fun _ => by rw [show L + 1 - 1 - 0 = L from by omega]; exact hb⟩
theorem mostTo_exists (u : Nat → Bool) (L : Nat) : ∀ k, k ≤ L → ∃ m, MostTo u L k m
  | 0, _ => ⟨0, MostTo.zero _ _⟩
  | k + 1, h => by
    obtain ⟨m, hm⟩ := mostTo_exists u L k (by omega)
    obtain ⟨r, hr⟩ := run_exists u L (L - k) k (by omega)
    exact ⟨_, hm.step hr⟩
theorem sum_exists (u : Nat → Bool) (L : Nat) : ∃ p : Nat × Nat × Nat, IsSum u L p.1 p.2.1 p.2.2 := by
  obtain ⟨s, hs⟩ := run_exists u L L 0 (by omega)
  obtain ⟨m, hm⟩ := mostTo_exists u L L (Nat.le_refl _)
  obtain ⟨c, hc⟩ := tail_exists u L
  exact ⟨(s, m, c), hs, hm.all, hc⟩
theorem IsSum.congr {u v : Nat → Bool} {L s m e : Nat} (h : IsSum u L s m e) (he : ∀ k, k < L → u k = v k) : IsSum v L s m e := by
  obtain ⟨⟨a1, a2, a3⟩, ⟨⟨j, b1, b2⟩, b3⟩, c1, c2, c3⟩ := h
  refine ⟨⟨a1, fun k h1 h2 => by rw [← he k (by omega)]; exact a2 k h1 h2, fun h => by rw [← he _ h]; exact a3 h⟩, ⟨⟨j, b1, fun k h1 h2 => by rw [← he k (by omega)]; exact b2 k h1 h2⟩, fun i n ⟨h1, h2⟩ => b3 i n ⟨h1, fun k k1 k2 => by rw [he k (by omega)]; exact h2 k k1 k2⟩⟩, c1, fun k h1 h2 => by rw [← he k (by omega)]; exact c2 k h1 h2, fun h => by rw [← he _ (by omega)]; exact c3 h⟩

/-- the first n pages of u -/
def upg (u : Nat → Bool) (n : Nat) : List Bool := (List.range n).map u
theorem upg_length (u : Nat → Bool) (n : Nat) : (upg u n).length = n := by simp [upg]
theorem at_upg (u : Nat → Bool) {n k : Nat} (h : k < n) : at_ (upg u n) k = u k := by simp [at_, upg, h]
theorem upg_add (u : Nat → Bool) (a b : Nat) : upg u (a + b) = upg u a ++ upg (fun k => u (a + k)) b := by
  simp [upg, List.range_add]
theorem upg_congr {u v : Nat → Bool} {n : Nat} (h : ∀ k, k < n → u k = v k) : upg u n = upg v n := by
  unfold upg
  exact List.map_congr_left fun k hk => h k (by simpa using hk)
theorem pg_upg (ws : Nat → Nat) (n : Nat) : pg ws n = upg (bt ws) n := rfl
end Go.Proofs.Ytkocngnpkfnblaa
