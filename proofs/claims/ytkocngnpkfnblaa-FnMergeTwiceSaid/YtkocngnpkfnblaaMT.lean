/- seats: P. Plain facts: summaries merged by parts, and these again. -/
import Derived.Test.YtkocngnpkfnblaaMN
namespace Go.Proofs.Ytkocngnpkfnblaa
open Go

/-- every part of K pages has its summary -/
def AllSums (u : Nat → Bool) (K : Nat) (S M C : Nat → Nat) : Prop := ∀ i, IsSum (fun k => u (i * K + k)) K (S i) (M i) (C i)
theorem allSums_exists (u : Nat → Bool) (K : Nat) : ∃ S M C : Nat → Nat, AllSums u K S M C := by
  have h := fun i => sum_exists (fun k => u (i * K + k)) K
  exact ⟨fun i => (Classical.choose (h i)).1, fun i => (Classical.choose (h i)).2.1, fun i => (Classical.choose (h i)).2.2, fun i => Classical.choose_spec (h i)⟩
/-- the parts of part j -/
theorem AllSums.inner {u : Nat → Bool} {K E : Nat} {S M C : Nat → Nat} (h : AllSums u K S M C) (j : Nat) : ∀ i, IsSum (fun k => (fun p => u (j * (E * K) + p)) (i * K + k)) K (S (j * E + i)) (M (j * E + i)) (C (j * E + i)) := fun i => by
  have := h (j * E + i)
  have e : (fun k => (fun p => u (j * (E * K) + p)) (i * K + k)) = fun k => u ((j * E + i) * K + k) := by
    funext k
    show u (j * (E * K) + (i * K + k)) = u ((j * E + i) * K + k)
    rw [Nat.add_mul, Nat.mul_assoc, Nat.add_assoc]
  rw [e]
  exact this
/-- the longest of the first n parts -/
def mostOf (M : Nat → Nat) : Nat → Nat
  | 0 => 0
  | n + 1 => max (mostOf M n) (M n)
theorem AllSums.most_le {u : Nat → Bool} {K n s m c : Nat} {S M C : Nat → Nat} (h : AllSums u K S M C) (hs : IsSum u (n * K) s m c) : ∀ k, k ≤ n → mostOf M k ≤ m
  | 0, _ => Nat.zero_le _
  | k + 1, hk => by
    have ih := h.most_le hs k (by omega)
    obtain ⟨⟨i, h1, h2⟩, _⟩ := (h k).2.1
    have hle : M k ≤ m := hs.2.1.2 (k * K + i) (M k) ⟨by
      have : (k + 1) * K ≤ n * K := Nat.mul_le_mul_right K hk
      rw [Nat.succ_mul] at this
      omega, fun q q1 q2 => by
      have := h2 (q - k * K) (by omega) (by omega)
      have e : k * K + (q - k * K) = q := by omega
      exact (congrArg u e) ▸ this⟩
    show max (mostOf M k) (M k) ≤ m
    omega
theorem mostOf_le {u : Nat → Bool} {K : Nat} {S M C : Nat → Nat} (h : AllSums u K S M C) : ∀ k, mostOf M k ≤ K
  | 0 => Nat.zero_le _
  | k + 1 => by
    have ih := mostOf_le h k
    obtain ⟨⟨i, h1, _⟩, _⟩ := (h k).2.1
    show max (mostOf M k) (M k) ≤ K
    omega
theorem one_free : IsSum (fun _ => false) 1 1 1 1 :=
  ⟨⟨by decide, fun _ _ _ => rfl, fun h => by omega⟩, ⟨⟨0, by decide, fun _ _ _ => rfl⟩, fun i n h => by have := h.1; omega⟩, by decide, fun _ _ _ => rfl, fun h => by omega⟩
end Go.Proofs.Ytkocngnpkfnblaa
