/- seats: P D. The masks of 64 bits that the walks spell, and what they do to a word, bit by bit. -/
import Derived.Test.YtkocngnpkfnblaaMA
import Derived.Laws.BitsAllLaws
import Derived.Laws.Bits64
namespace Go.Proofs.Ytkocngnpkfnblaa
open Go

theorem wrapN (a : Nat) : IntKind.u64.wrap (a : Int) = ((a % 18446744073709551616 : Nat) : Int) := by rw [IntKind.wrap_u64]; omega
theorem powN (n : Nat) : (2 : Int) ^ n = ((2 ^ n : Nat) : Int) := by simp
theorem wrap_pred (a : Nat) (h : 1 ≤ a) (h2 : a ≤ 18446744073709551616) : IntKind.u64.wrap (IntKind.u64.wrap (a : Int) - 1) = ((a - 1 : Nat) : Int) := by
  rw [wrapN, IntKind.wrap_u64]; omega

theorem pow_le_64 {n : Nat} (h : n ≤ 64) : 2 ^ n ≤ 18446744073709551616 := Nat.pow_le_pow_right (n := 2) (by decide) h

theorem mask_ones (n : Nat) (h : n ≤ 64) : IntKind.u64.wrap (IntKind.u64.wrap (2 ^ n) - 1) = ((2 ^ n - 1 : Nat) : Int) := by
  rw [powN]; exact wrap_pred _ (Nat.two_pow_pos n) (pow_le_64 h)

theorem tb_mod64 (x k : Nat) (hk : k < 64) : (x % 18446744073709551616).testBit k = x.testBit k := by
  have := Nat.testBit_mod_two_pow x 64 k
  simp only [show (2 : Nat) ^ 64 = 18446744073709551616 from rfl] at this
  rw [this]; simp [hk]

theorem shl_mask (m s : Nat) : IntKind.u64.wrap ((m : Int) * 2 ^ s) = ((m * 2 ^ s % 18446744073709551616 : Nat) : Int) := by
  rw [powN, ← Int.natCast_mul, wrapN]

theorem tb_shl (m s k : Nat) (hk : k < 64) : (m * 2 ^ s % 18446744073709551616).testBit k = (decide (s ≤ k) && m.testBit (k - s)) := by
  rw [tb_mod64 _ _ hk, Nat.testBit_mul_two_pow]

/-- one bit -/
theorem mask_one (s : Nat) (hs : s < 64) : ∃ m : Nat, IntKind.u64.wrap (2 ^ s) = (m : Int) ∧ m < 18446744073709551616 ∧ ∀ k, k < 64 → m.testBit k = decide (k = s) := by
  refine ⟨2 ^ s % 18446744073709551616, by rw [powN, wrapN], Nat.mod_lt _ (by decide), fun k hk => ?_⟩
  rw [tb_mod64 _ _ hk, Nat.testBit_two_pow]
  simp [eq_comm]

/-- bits s to s+n-1 -/
theorem mask_mid (n s : Nat) (hn : n ≤ 64) : ∃ m : Nat, IntKind.u64.wrap (IntKind.u64.wrap (IntKind.u64.wrap (2 ^ n) - 1) * 2 ^ s) = (m : Int) ∧ m < 18446744073709551616 ∧ ∀ k, k < 64 → m.testBit k = (decide (s ≤ k) && decide (k < s + n)) := by
  refine ⟨(2 ^ n - 1) * 2 ^ s % 18446744073709551616, by rw [mask_ones n hn, shl_mask], Nat.mod_lt _ (by decide), fun k hk => ?_⟩
  rw [tb_shl _ _ _ hk, tb_ones]
  by_cases h : s ≤ k
  · simp only [h, decide_true, Bool.true_and]
    congr 1
    simp; omega
  · simp [h]

/-- the bits from s on -/
theorem mask_lead (s : Nat) : ∃ m : Nat, IntKind.u64.wrap (18446744073709551615 * 2 ^ s) = (m : Int) ∧ m < 18446744073709551616 ∧ ∀ k, k < 64 → m.testBit k = decide (s ≤ k) := by
  refine ⟨18446744073709551615 * 2 ^ s % 18446744073709551616, shl_mask 18446744073709551615 s, Nat.mod_lt _ (by decide), fun k hk => ?_⟩
  rw [tb_shl _ _ _ hk, tb_max (by omega)]
  simp

/-- the bits below n -/
theorem mask_tail (n : Nat) (hn : n ≤ 64) : ∃ m : Nat, IntKind.u64.wrap (IntKind.u64.wrap (2 ^ n) - 1) = (m : Int) ∧ m < 18446744073709551616 ∧ ∀ k, k < 64 → m.testBit k = decide (k < n) := by
  refine ⟨2 ^ n - 1, mask_ones n hn, ?_, fun k _ => tb_ones n k⟩
  have := pow_le_64 hn
  have := Nat.two_pow_pos n
  omega

/-- a mask's bits are set -/
theorem or_mask {x : Nat} (hx : x < 18446744073709551616) {e : Int} {p : Nat → Bool} (h : ∃ m : Nat, e = (m : Int) ∧ m < 18446744073709551616 ∧ ∀ k, k < 64 → m.testBit k = p k) :
    ∃ y : Nat, bits .or .u64 (x : Int) e = (y : Int) ∧ y < 18446744073709551616 ∧ ∀ k, k < 64 → y.testBit k = (x.testBit k || p k) := by
  obtain ⟨m, rfl, hm, hb⟩ := h
  exact ⟨x ||| m, u64_or_nat x m hx hm, Nat.or_lt_two_pow (n := 64) hx hm, fun k hk => by rw [Nat.testBit_or, hb k hk]⟩

/-- a mask's bits are cleared -/
theorem andNot_mask {x : Nat} (hx : x < 18446744073709551616) {e : Int} {p : Nat → Bool} (h : ∃ m : Nat, e = (m : Int) ∧ m < 18446744073709551616 ∧ ∀ k, k < 64 → m.testBit k = p k) :
    ∃ y : Nat, bits .andNot .u64 (x : Int) e = (y : Int) ∧ y < 18446744073709551616 ∧ ∀ k, k < 64 → y.testBit k = (x.testBit k && !p k) := by
  obtain ⟨m, rfl, hm, hb⟩ := h
  refine ⟨x &&& (18446744073709551615 - m), u64_andNot_nat x m hx hm, Nat.lt_of_le_of_lt Nat.and_le_left hx, fun k hk => ?_⟩
  rw [Nat.testBit_and, tb_not hm, hb k hk]
  simp [hk]

end Go.Proofs.Ytkocngnpkfnblaa
