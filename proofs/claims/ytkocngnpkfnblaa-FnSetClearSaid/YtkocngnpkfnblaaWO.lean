/- seats: P D. The walk of math/bits.OnesCount64: how many bits are 1. -/
import Derived.Test.YtkocngnpkfnblaaWK
import Derived.Test.YtkocngnpkfnblaaMO
namespace Go.Proofs.Ytkocngnpkfnblaa
open Go.RowKit

def o1 (x : Int) : Int := IntKind.u64.wrap (bits .and .u64 (x / 2) 6148914691236517205 + bits .and .u64 x 6148914691236517205)
def o2 (x : Int) : Int := IntKind.u64.wrap (bits .and .u64 (x / 4) 3689348814741910323 + bits .and .u64 x 3689348814741910323)
def o3 (x : Int) : Int := bits .and .u64 (IntKind.u64.wrap (x / 16 + x)) 1085102592571150095
def o4 (x : Int) : Int := IntKind.u64.wrap (x + x / 256)
def o5 (x : Int) : Int := IntKind.u64.wrap (x + x / 65536)
def o6 (x : Int) : Int := IntKind.u64.wrap (x + x / 4294967296)
def o7 (x : Int) : Int := bits .and .i64 (wrap64 x) 127

theorem and_le (a b : Nat) : a &&& b ≤ b := Nat.and_le_right

theorem o1_eq (x : Nat) (hx : x < 18446744073709551616) : o1 x = (fA 32 x : Nat) := by
  have h1 : bits .and .u64 (((x / 2) : Nat) : Int) 6148914691236517205 = (((x / 2) &&& 6148914691236517205 : Nat) : Int) := u64_and_nat (x / 2) 6148914691236517205 (by omega) (by decide)
  have h2 : bits .and .u64 ((x : Nat) : Int) 6148914691236517205 = ((x &&& 6148914691236517205 : Nat) : Int) := u64_and_nat x 6148914691236517205 hx (by decide)
  have b1 := and_le (x / 2) 6148914691236517205
  have b2 := and_le x 6148914691236517205
  unfold o1 fA
  rw [mA32]
  rw [show ((x : Int) / 2) = ((x / 2 : Nat) : Int) from by omega]
  rw [h1, h2, ← Int.natCast_add, wrapN, Nat.mod_eq_of_lt (by omega)]
theorem fA_le (x : Nat) : fA 32 x < 18446744073709551616 := by
  have b1 := and_le (x / 2) 6148914691236517205
  have b2 := and_le x 6148914691236517205
  unfold fA
  rw [mA32]
  omega
theorem o2_eq (x : Nat) (hx : x < 18446744073709551616) : o2 x = (fB 16 x : Nat) := by
  have h1 : bits .and .u64 (((x / 4) : Nat) : Int) 3689348814741910323 = (((x / 4) &&& 3689348814741910323 : Nat) : Int) := u64_and_nat (x / 4) 3689348814741910323 (by omega) (by decide)
  have h2 : bits .and .u64 ((x : Nat) : Int) 3689348814741910323 = ((x &&& 3689348814741910323 : Nat) : Int) := u64_and_nat x 3689348814741910323 hx (by decide)
  have b1 := and_le (x / 4) 3689348814741910323
  have b2 := and_le x 3689348814741910323
  unfold o2 fB
  rw [mB16]
  rw [show ((x : Int) / 4) = ((x / 4 : Nat) : Int) from by omega]
  rw [h1, h2, ← Int.natCast_add, wrapN, Nat.mod_eq_of_lt (by omega)]
theorem fB_le (x : Nat) : fB 16 x ≤ 7378697629483820646 := by
  have b1 := and_le (x / 4) 3689348814741910323
  have b2 := and_le x 3689348814741910323
  unfold fB
  rw [mB16]
  omega
theorem o3_eq (x : Nat) (hx : x ≤ 7378697629483820646) : o3 x = (fC 8 x : Nat) := by
  have h1 : bits .and .u64 (((x / 16 + x) : Nat) : Int) 1085102592571150095 = (((x / 16 + x) &&& 1085102592571150095 : Nat) : Int) := u64_and_nat (x / 16 + x) 1085102592571150095 (by omega) (by decide)
  unfold o3 fC
  rw [mC8]
  rw [show ((x : Int) / 16 + (x : Int)) = ((x / 16 + x : Nat) : Int) from by omega]
  rw [wrapN, Nat.mod_eq_of_lt (by omega), h1]
theorem fC_le (x : Nat) : fC 8 x ≤ 1085102592571150095 := by
  unfold fC
  rw [mC8]
  exact and_le _ _
theorem o4_eq (x : Nat) (hx : x ≤ 1085102592571150095) : o4 x = (x + x / 256 : Nat) := by
  unfold o4
  rw [show ((x : Int) + (x : Int) / 256) = ((x + x / 256 : Nat) : Int) from by omega]
  rw [wrapN, Nat.mod_eq_of_lt (by omega)]
theorem o5_eq (x : Nat) (hx : x ≤ 1090000000000000000) : o5 x = (x + x / 65536 : Nat) := by
  unfold o5
  rw [show ((x : Int) + (x : Int) / 65536) = ((x + x / 65536 : Nat) : Int) from by omega]
  rw [wrapN, Nat.mod_eq_of_lt (by omega)]
theorem o6_eq (x : Nat) (hx : x ≤ 1100000000000000000) : o6 x = (x + x / 4294967296 : Nat) := by
  unfold o6
  rw [show ((x : Int) + (x : Int) / 4294967296) = ((x + x / 4294967296 : Nat) : Int) from by omega]
  rw [wrapN, Nat.mod_eq_of_lt (by omega)]
theorem o7_eq (x : Nat) (hx : x < 9223372036854775808) : o7 x = (x % 128 : Nat) := by
  unfold o7
  rw [IntWalk.wrap64_in _ (by omega)]
  show IntKind.i64.wrap ((BitVec.ofInt 64 (x : Int) &&& BitVec.ofInt 64 (127 : Int)).toNat : Int) = _
  rw [BitVec.toNat_and]
  have e1 : (BitVec.ofInt 64 (x : Int)).toNat = x := by rw [BitVec.ofInt_natCast, BitVec.toNat_ofNat]; exact Nat.mod_eq_of_lt (by omega)
  have e2 : (BitVec.ofInt 64 (127 : Int)).toNat = 127 := by decide
  have e3 : x &&& 127 = x % 128 := Nat.and_two_pow_sub_one_eq_mod x 7
  rw [e1, e2, e3, IntWalk.i64_in _ (by omega)]

theorem ones_eq (x : Nat) (hx : x < 18446744073709551616) : o7 (o6 (o5 (o4 (o3 (o2 (o1 x)))))) = (cnt (fun j => x.testBit j) 0 64 : Nat) := by
  have k2 := fB_le (fA 32 x)
  have k3 := fC_le (fB 16 (fA 32 x))
  have hf := fold_bytes (c8 x) (c8 (x / 256)) (c8 (x / 256 / 256)) (c8 (x / 256 / 256 / 256)) (c8 (x / 256 / 256 / 256 / 256)) (c8 (x / 256 / 256 / 256 / 256 / 256)) (c8 (x / 256 / 256 / 256 / 256 / 256 / 256))
    (c8 (x / 256 / 256 / 256 / 256 / 256 / 256 / 256)) (c8_le _) (c8_le _) (c8_le _) (c8_le _) (c8_le _) (c8_le _) (c8_le _) (c8_le _) _ (fC_eight x)
  rw [o1_eq x hx, o2_eq _ (fA_le x), o3_eq _ k2, o4_eq _ k3]
  generalize fC 8 (fB 16 (fA 32 x)) = y at *
  rw [o5_eq _ (by omega), o6_eq _ (by omega), o7_eq _ hf.2, hf.1, cnt_bits64]

/-- how many bits of the word x are 1 -/
def pc (x : Nat) : Nat := cnt (fun j => x.testBit j) 0 64
theorem pc_le (x : Nat) : pc x ≤ 64 := cnt_le _ _ _

theorem ret_int {k : IntKind} {a b : Int} (h : a = b) : Ending.returned (.int k a) = .returned (.int k b) := by rw [h]

set_option maxRecDepth 100000 in
set_option maxHeartbeats 400000 in
theorem ones_any (x : Nat) (hx : x < 18446744073709551616) (w : World) :
    Calls Try.prog 64 #[.int .u64 (x : Int)] w fun e w' => e = .returned (.int .i64 (pc x : Nat)) ∧ w = w' := by
  go_enter Try.func64, Try.ntmps64
  go_wp2
  go_ret
  exact ⟨ret_int (ones_eq x hx), rfl⟩
end Go.Proofs.Ytkocngnpkfnblaa
