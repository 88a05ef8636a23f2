/- seats: D. Plain facts: fewer pages are found ahead; what setting a free run counts; what a summary tells of its ends. -/
import Derived.Test.YtkocngnpkfnblaaDoorMH
namespace Go.Proofs.YtkocngnpkfnblaaDoor
open Go

theorem NoRun.mono {u : Nat → Bool} {L n m : Nat} (h : NoRun u L m) (hmn : m ≤ n) : NoRun u L n :=
  fun k hf => h k ⟨by have := hf.1; omega, hf.2.mono (Nat.le_refl _) (by omega)⟩
theorem Found.less {u : Nat → Bool} {n m r q r' q' : Nat} (_hm : 1 ≤ m) (hmn : m ≤ n) (h : Found u n r q) (h' : Found u m r' q') :
    (r = 18446744073709551615 ∧ r' = 18446744073709551615) ∨ (r = 18446744073709551615 ∧ r' < 512 ∧ FreeAt u 512 r' m) ∨ (r < 512 ∧ r' ≤ r ∧ FreeAt u 512 r' m) := by
  rcases h' with ⟨a, b, _⟩ | ⟨a, b⟩
  · have hf := b.free a
    rcases h with ⟨c, d, _⟩ | ⟨c, d⟩
    · refine .inr (.inr ⟨c, ?_, hf⟩)
      apply Nat.le_of_not_lt
      intro hlt
      have hr := d.free c
      rcases b with ⟨_, _, b3⟩ | ⟨e, _⟩
      · exact b3 r hlt ⟨by have := hr.1; omega, hr.2.mono (Nat.le_refl _) (by omega)⟩
      · omega
    · exact .inr (.inl ⟨c, a, hf⟩)
  · rcases h with ⟨c, d, _⟩ | ⟨c, d⟩
    · exact absurd (d.free c) (b.mono hmn r)
    · exact .inl ⟨c, a⟩

theorem cnt_put {u v : Nat → Bool} {L r n : Nat} (hf : FreeAt u L r n) (hv : ∀ k, k < L → v k = (u k || (decide (r ≤ k) && decide (k < r + n)))) : cnt v 0 L = cnt u 0 L + n := by
  have h1 := hf.1
  have e : ∀ w : Nat → Bool, cnt w 0 L = cnt w 0 r + cnt w r n + cnt w (r + n) (L - (r + n)) := fun w => by
    have a := cnt_add w 0 r (n + (L - (r + n)))
    have b := cnt_add w r n (L - (r + n))
    rw [show r + (n + (L - (r + n))) = L from by omega, Nat.zero_add] at a
    rw [a, b, Nat.add_assoc]
  rw [e u, e v]
  have c1 : cnt v 0 r = cnt u 0 r := cnt_congr fun k hk => by
    rw [Nat.zero_add, hv k (by omega)]
    have : decide (r ≤ k) = false := by simp; omega
    rw [this]; simp
  have c2 : cnt v r n = n := cnt_all fun k hk => by
    rw [hv (r + k) (by omega)]
    have a : decide (r ≤ r + k) = true := by simp
    have b : decide (r + k < r + n) = true := by simp; omega
    rw [a, b]; simp
  have c3 : cnt u r n = 0 := cnt_none fun k hk => hf.2 (r + k) (by omega) (by omega)
  have c4 : cnt v (r + n) (L - (r + n)) = cnt u (r + n) (L - (r + n)) := cnt_congr fun k hk => by
    rw [hv (r + n + k) (by omega)]
    have : decide (r + n + k < r + n) = false := by simp
    rw [this]; simp
  rw [c1, c2, c3, c4]
  omega

theorem IsSum.ends {u : Nat → Bool} {L s m e : Nat} (h : IsSum u L s m e) : s ≤ L ∧ e ≤ L ∧ s ≤ m ∧ e ≤ m ∧ m ≤ L := by
  obtain ⟨⟨a1, a2, _⟩, ⟨⟨j, b1, _⟩, b3⟩, c1, c2, _⟩ := h
  exact ⟨by omega, c1, b3 0 s ⟨a1, a2⟩, b3 (L - e) e ⟨by omega, c2⟩, by omega⟩
theorem IsSum.startFree {u : Nat → Bool} {L s m e : Nat} (h : IsSum u L s m e) : cnt u 0 s = 0 := cnt_none fun k hk => h.1.2.1 (0 + k) (by omega) (by omega)
theorem IsSum.endFree {u : Nat → Bool} {L s m e : Nat} (h : IsSum u L s m e) : cnt u (L - e) e = 0 := cnt_none fun k hk => h.2.2.2.1 (L - e + k) (by omega) (by omega)
theorem IsSum.startUsed {u : Nat → Bool} {L s m e : Nat} (h : IsSum u L s m e) (hs : s < L) : u s = true := by
  have := h.1.2.2 (by omega)
  rwa [Nat.zero_add] at this
theorem IsSum.endUsed {u : Nat → Bool} {L s m e : Nat} (h : IsSum u L s m e) (he : e < L) : u (L - 1 - e) = true := h.2.2.2.2 he
end Go.Proofs.YtkocngnpkfnblaaDoor
