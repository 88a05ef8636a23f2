/- seats: D. math/bits.TrailingZeros64 over its table, LeadingZeros64: in numbers; the table is kept by whatever does not write below the heap's size. -/
import Derived.Test.YtkocngnpkfnblaaDoorWK
import Derived.Test.YtkocngnpkfnblaaDoorMW
import Derived.Test.YtkocngnpkfnblaaDoorShelf
namespace Go.Proofs.YtkocngnpkfnblaaDoor
open Go.RowKit

/-- the table lies in its variable -/
def Tab (w : World) : Prop := 0 < w.heap.size ∧ ∀ j, j < 64 → w.cell? ⟨0, j, none⟩ = some (.int .u8 (Lib.deBruijn64tab.getD j 0))
theorem Tab.below {w w' : World} {B : Nat} (h : Tab w) (hb : Below B w w') (h0 : 0 < B) : Tab w' :=
  ⟨Nat.lt_of_lt_of_le h.1 hb.size, fun j hj => (hb.cell (p := ⟨0, j, none⟩) h0).trans (h.2 j hj)⟩
theorem Tab.of {w w' : World} (h : Tab w) (hb : Below w.heap.size w w') : Tab w' := h.below hb h.1
theorem Tab.alloc {w : World} (h : Tab w) (o : Obj) : Tab (w.alloc o) := h.of ((Below.refl _ _).alloc (Nat.le_refl _) _)
theorem Tab.set {w : World} (h : Tab w) {p : Addr} (hp : p.block ≠ 0) (v : Value) : Tab (w.setCell p v) :=
  h.below (B := 1) ((Below.refl 1 w).setCell (by omega) v) (by decide)

theorem lz_any (x : Nat) (hx : x < 18446744073709551616) (w : World) :
    Calls Tryd.prog 60 #[.int .u64 (x : Int)] w fun e w' => e = .returned (.int .i64 (clz x : Nat)) ∧ w = w' := by
  refine (Tryd.bits_LeadingZeros64 x w (by omega) (by omega)).mono ?_
  rintro e w' ⟨rfl, rfl⟩
  have hle : Lib.bitLen x ≤ 64 := Lib.bitLen_le x 64 (by omega) hx
  refine ⟨?_, rfl⟩
  congr 2
  unfold clz
  rw [Int.toNat_natCast]
  omega

theorem tz_key (x a : Nat) (hx : x < 18446744073709551616) (hx0 : x ≠ 0) (hlow : x &&& (18446744073709551616 - x) = a) :
    IntKind.u64.wrap (bits BinOp.and IntKind.u64 (x : Int) (IntKind.u64.wrap (-(x : Int))) * 285870213051353865) / 288230376151711744 = ((a * 285870213051353865 % 18446744073709551616 / 288230376151711744 : Nat) : Int) := by
  have e1 : IntKind.u64.wrap (-(x : Int)) = ((18446744073709551616 - x : Nat) : Int) := by rw [IntKind.wrap_u64]; omega
  rw [e1, u64_and_nat x _ hx (by omega), hlow, IntKind.wrap_u64]
  omega

set_option maxRecDepth 100000 in
set_option maxHeartbeats 400000 in
theorem tz_core (x k idx : Nat) (w : World) (hx0 : ((x : Int) == 0) = false)
    (key : IntKind.u64.wrap (bits BinOp.and IntKind.u64 (x : Int) (IntKind.u64.wrap (-(x : Int))) * 285870213051353865) / 288230376151711744 = (idx : Int))
    (hi : idx < 64) (hk : k < 64) (hcell : w.cell? ⟨0, idx, none⟩ = some (.int .u8 k)) :
    Calls Tryd.prog 59 #[.int .u64 (x : Int)] w fun e w' => e = .returned (.int .i64 (k : Int)) ∧ w = w' := by
  go_enter Tryd.func59, Tryd.ntmps59
  go_wp2_with (simp only [key])
  go_ret
  exact ⟨rfl, rfl⟩

set_option maxRecDepth 100000 in
theorem tz_zero (w : World) : Calls Tryd.prog 59 #[.int .u64 0] w fun e w' => e = .returned (.int .i64 64) ∧ w = w' := by
  go_enter Tryd.func59, Tryd.ntmps59
  go_wp2
  go_ret
  exact ⟨rfl, rfl⟩

theorem tz_any (x : Nat) (hx : x < 18446744073709551616) (w : World) (hT : Tab w) :
    Calls Tryd.prog 59 #[.int .u64 (x : Int)] w fun e w' => e = .returned (.int .i64 (Lib.ctz 64 x : Nat)) ∧ w = w' := by
  by_cases hx0 : x = 0
  · subst hx0
    exact tz_zero w
  · obtain ⟨hlow, hk⟩ := Lib.lowest_bit 64 x hx0 hx
    obtain ⟨hi, htab⟩ := Lib.deBruijn64_at _ hk
    have hcell := hT.2 _ hi
    rw [htab] at hcell
    exact tz_core x _ _ w (by simp; omega) (tz_key x _ hx hx0 hlow) hi hk hcell
end Go.Proofs.YtkocngnpkfnblaaDoor
