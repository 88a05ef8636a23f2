/- seats: P D. Plain facts: the pages of words as a list. -/
import Derived.Test.YtkocngnpkfnblaaMW
namespace Go.Proofs.Ytkocngnpkfnblaa
open Go

/-- the first n pages of the words ws -/
def pg (ws : Nat → Nat) (n : Nat) : List Bool := (List.range n).map (bt ws)
theorem pg_zero (ws : Nat → Nat) : pg ws 0 = [] := rfl
theorem pg_succ (ws : Nat → Nat) (n : Nat) : pg ws (n + 1) = pg ws n ++ [bt ws n] := by simp [pg, List.range_succ]
theorem pg_length (ws : Nat → Nat) (n : Nat) : (pg ws n).length = n := by simp [pg]

/-- page k of a list is in use -/
def at_ (l : List Bool) (k : Nat) : Bool := l.getD k false
theorem at_pg (ws : Nat → Nat) {n k : Nat} (h : k < n) : at_ (pg ws n) k = bt ws k := by
  simp [at_, pg, h]
theorem at_append_left {l r : List Bool} {k : Nat} (h : k < l.length) : at_ (l ++ r) k = at_ l k := by
  simp [at_, List.getElem?_append_left h]
theorem at_append_right {l r : List Bool} {k : Nat} (h : l.length ≤ k) : at_ (l ++ r) k = at_ r (k - l.length) := by
  simp [at_, List.getElem?_append_right h]
theorem at_take {l : List Bool} {n k : Nat} (h : k < n) : at_ (l.take n) k = at_ l k := by
  simp [at_, h]
theorem at_get {l : List Bool} {k : Nat} (h : k < l.length) : (l.map Go.Value.bool)[k]? = some (.bool (at_ l k)) := by
  simp [at_, h]

theorem bit_test {x : Nat} (hx : x < 18446744073709551616) (s : Nat) : (bits .and .u64 ((x : Int) / 2 ^ s) 1 == 1) = x.testBit s := by
  have hd : x / 2 ^ s < 18446744073709551616 := Nat.lt_of_le_of_lt (Nat.div_le_self _ _) hx
  have h : bits .and .u64 ((x / 2 ^ s : Nat) : Int) 1 = ((x / 2 ^ s &&& 1 : Nat) : Int) := u64_and_nat (x / 2 ^ s) 1 hd (by decide)
  rw [powN, show ((x : Int) / ((2 ^ s : Nat) : Int)) = ((x / 2 ^ s : Nat) : Int) from rfl, h, nat_mask1, Nat.testBit_eq_decide_div_mod_eq]
  rcases Nat.mod_two_eq_zero_or_one (x / 2 ^ s) with h | h <;> rw [h] <;> rfl
end Go.Proofs.Ytkocngnpkfnblaa
