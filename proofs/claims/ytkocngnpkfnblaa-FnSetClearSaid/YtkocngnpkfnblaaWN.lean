/- seats: P D. The exports that only read a chunk: PopCount, Get, Block64. (Written by gen_reads.py.) -/
import Derived.Test.YtkocngnpkfnblaaWE
import Derived.Test.YtkocngnpkfnblaaWP
namespace Go.Proofs.Ytkocngnpkfnblaa
open Go.RowKit

/-- a number is handed back; below the heap's old size nothing has turned -/
def RetU (w : World) (Q : Nat → Prop) (e : Ending) (w' : World) : Prop := ∃ r : Nat, Q r ∧ e = .returned (.int .u64 r) ∧ Below w.heap.size w w'
def RetU2 (w : World) (Q : Nat → Nat → Prop) (e : Ending) (w' : World) : Prop := ∃ r s : Nat, Q r s ∧ e = .returned (.tuple #[.int .u64 r, .int .u64 s]) ∧ Below w.heap.size w w'
/-- .. and nothing at all has turned -/
def SameU (w : World) (Q : Nat → Prop) (e : Ending) (w' : World) : Prop := ∃ r : Nat, Q r ∧ e = .returned (.int .u64 r) ∧ w = w'
def SameU2 (w : World) (Q : Nat → Nat → Prop) (e : Ending) (w' : World) : Prop := ∃ r s : Nat, Q r s ∧ e = .returned (.tuple #[.int .u64 r, .int .u64 s]) ∧ w = w'

theorem below_two (w : World) (A B : Obj) : Below w.heap.size w ((w.alloc A).alloc B) := ((Below.refl _ _).alloc (Nat.le_refl _) _).alloc (by simp) _

/-- page i as a number -/
def bit1 (b : Nat → Nat) (i : Nat) : Nat := if bt b i then 1 else 0

set_option maxRecDepth 100000 in
set_option maxHeartbeats 400000 in
theorem get_any (g t : Nat) (b : Nat → Nat) (i : Nat) (hi : i < 512) (w : World) (hb : Words b) (hc : Cells8 w g t b) :
    Calls Try.prog 48 #[.pointer (some ⟨g, 0, none⟩), .int .u64 (i : Int)] w (SameU w (· = bit1 b i)) := by
  have h1 := hc.cell (j := i / 64) (by omega)
  have HY := Lib.hid (and_bit (hb (i / 64) (by omega)) (i % 64))
  clear hc hb
  go_enter Try.func48, Try.ntmps48
  go_wp2
  go_ret
  refine ⟨bit1 b i, rfl, ret_int ?_, rfl⟩
  rw [HY.out]
  rfl

set_option maxRecDepth 100000 in
set_option maxHeartbeats 400000 in
theorem block64_any (g t : Nat) (b : Nat → Nat) (i : Nat) (hi : i < 512) (w : World) (hb : Words b) (hc : Cells8 w g t b) :
    Calls Try.prog 49 #[.pointer (some ⟨g, 0, none⟩), .int .u64 (i : Int)] w (SameU w (· = b (i / 64))) := by
  have h1 := hc.cell (j := i / 64) (by omega)
  clear hc hb
  go_enter Try.func49, Try.ntmps49
  go_wp2
  go_ret
  exact ⟨_, rfl, rfl, rfl⟩

theorem popcnt_same' (g t : Nat) (b : Nat → Nat) (i n : Nat) (hr : 1 ≤ n ∧ i + n ≤ 512) (w : World) (hb : Words b) (hc : Cells8 w g t b) :
    Calls Try.prog 54 #[.pointer (some ⟨g, 0, none⟩), .int .u64 (i : Int), .int .u64 (n : Int)] w (SameU w (· = cnt (bt b) i n)) :=
  (popcnt_any g t b i n hr.1 hr.2 w hb hc).mono fun _ _ ⟨he, hw⟩ => ⟨_, rfl, he, hw⟩

set_option maxRecDepth 100000 in
set_option maxHeartbeats 400000 in
theorem pub_PopCount (b : Nat → Nat) (i n : Nat) (w : World) (hb : Words b) (hr : 1 ≤ n ∧ i + n ≤ 512) :
    Calls Try.prog 41 #[(.agg #[.int .u64 (b 0), .int .u64 (b 1), .int .u64 (b 2), .int .u64 (b 3), .int .u64 (b 4), .int .u64 (b 5), .int .u64 (b 6), .int .u64 (b 7)]), .int .u64 (i : Int), .int .u64 (n : Int)] w (RetU w (· = cnt (bt b) i n)) := by
  have HB := Lib.hid hb
  clear hb
  go_enter Try.func41, Try.ntmps41
  go_wp2_with fail
  refine (popcnt_same' _ 70 b i n hr _ HB.out ?_).mono ?_
  · exact Cells8.new' _ _ _ _ (by simp)
  rintro e w1 ⟨r, hQ, rfl, rfl⟩
  have HQ := Lib.hid hQ
  clear hQ
  go_wp2
  go_ret
  exact ⟨r, HQ.out, rfl, below_two _ _ _⟩

set_option maxRecDepth 100000 in
set_option maxHeartbeats 400000 in
theorem pub_Get (b : Nat → Nat) (i : Nat) (w : World) (hb : Words b) (hr : i < 512) :
    Calls Try.prog 35 #[(.agg #[.int .u64 (b 0), .int .u64 (b 1), .int .u64 (b 2), .int .u64 (b 3), .int .u64 (b 4), .int .u64 (b 5), .int .u64 (b 6), .int .u64 (b 7)]), .int .u64 (i : Int)] w (RetU w (· = bit1 b i)) := by
  have HB := Lib.hid hb
  clear hb
  go_enter Try.func35, Try.ntmps35
  go_wp2_with fail
  refine (get_any _ 70 b i hr _ HB.out ?_).mono ?_
  · exact Cells8.new' _ _ _ _ (by simp)
  rintro e w1 ⟨r, hQ, rfl, rfl⟩
  have HQ := Lib.hid hQ
  clear hQ
  go_wp2
  go_ret
  exact ⟨r, HQ.out, rfl, below_two _ _ _⟩

set_option maxRecDepth 100000 in
set_option maxHeartbeats 400000 in
theorem pub_Block64 (b : Nat → Nat) (i : Nat) (w : World) (hb : Words b) (hr : i < 512) :
    Calls Try.prog 36 #[(.agg #[.int .u64 (b 0), .int .u64 (b 1), .int .u64 (b 2), .int .u64 (b 3), .int .u64 (b 4), .int .u64 (b 5), .int .u64 (b 6), .int .u64 (b 7)]), .int .u64 (i : Int)] w (RetU w (· = b (i / 64))) := by
  have HB := Lib.hid hb
  clear hb
  go_enter Try.func36, Try.ntmps36
  go_wp2_with fail
  refine (block64_any _ 70 b i hr _ HB.out ?_).mono ?_
  · exact Cells8.new' _ _ _ _ (by simp)
  rintro e w1 ⟨r, hQ, rfl, rfl⟩
  have HQ := Lib.hid hQ
  clear hQ
  go_wp2
  go_ret
  exact ⟨r, HQ.out, rfl, below_two _ _ _⟩

set_option maxRecDepth 100000 in
set_option maxHeartbeats 400000 in
theorem impl_PopCount (b : Nat → Nat) (i n : Nat) (w : World) (hb : Words b) (hr : 1 ≤ n ∧ i + n ≤ 512) :
    Calls Try.prog 26 #[(.agg #[.int .u64 (b 0), .int .u64 (b 1), .int .u64 (b 2), .int .u64 (b 3), .int .u64 (b 4), .int .u64 (b 5), .int .u64 (b 6), .int .u64 (b 7)]), .int .u64 (i : Int), .int .u64 (n : Int)] w (RetU w (· = cnt (bt b) i n)) := by
  have HB := Lib.hid hb
  clear hb
  go_enter Try.func26, Try.ntmps26
  go_wp2_with fail
  refine (pub_PopCount b i n _ HB.out hr).mono ?_
  rintro e w1 ⟨r, hQ, rfl, hbel⟩
  have HQ := Lib.hid hQ
  have HBL := Lib.hid (((Below.refl w.heap.size w).alloc (Nat.le_refl _) (.cells #[.int .u64 (b 0), .int .u64 (b 1), .int .u64 (b 2), .int .u64 (b 3), .int .u64 (b 4), .int .u64 (b 5), .int .u64 (b 6), .int .u64 (b 7)] 23)).trans (hbel.mono (by simp)))
  clear hQ hbel
  go_wp2
  go_ret
  exact ⟨r, HQ.out, rfl, HBL.out⟩

set_option maxRecDepth 100000 in
set_option maxHeartbeats 400000 in
theorem impl_Get (b : Nat → Nat) (i : Nat) (w : World) (hb : Words b) (hr : i < 512) :
    Calls Try.prog 17 #[(.agg #[.int .u64 (b 0), .int .u64 (b 1), .int .u64 (b 2), .int .u64 (b 3), .int .u64 (b 4), .int .u64 (b 5), .int .u64 (b 6), .int .u64 (b 7)]), .int .u64 (i : Int)] w (RetU w (· = bit1 b i)) := by
  have HB := Lib.hid hb
  clear hb
  go_enter Try.func17, Try.ntmps17
  go_wp2_with fail
  refine (pub_Get b i _ HB.out hr).mono ?_
  rintro e w1 ⟨r, hQ, rfl, hbel⟩
  have HQ := Lib.hid hQ
  have HBL := Lib.hid (((Below.refl w.heap.size w).alloc (Nat.le_refl _) (.cells #[.int .u64 (b 0), .int .u64 (b 1), .int .u64 (b 2), .int .u64 (b 3), .int .u64 (b 4), .int .u64 (b 5), .int .u64 (b 6), .int .u64 (b 7)] 23)).trans (hbel.mono (by simp)))
  clear hQ hbel
  go_wp2
  go_ret
  exact ⟨r, HQ.out, rfl, HBL.out⟩

set_option maxRecDepth 100000 in
set_option maxHeartbeats 400000 in
theorem impl_Block64 (b : Nat → Nat) (i : Nat) (w : World) (hb : Words b) (hr : i < 512) :
    Calls Try.prog 18 #[(.agg #[.int .u64 (b 0), .int .u64 (b 1), .int .u64 (b 2), .int .u64 (b 3), .int .u64 (b 4), .int .u64 (b 5), .int .u64 (b 6), .int .u64 (b 7)]), .int .u64 (i : Int)] w (RetU w (· = b (i / 64))) := by
  have HB := Lib.hid hb
  clear hb
  go_enter Try.func18, Try.ntmps18
  go_wp2_with fail
  refine (pub_Block64 b i _ HB.out hr).mono ?_
  rintro e w1 ⟨r, hQ, rfl, hbel⟩
  have HQ := Lib.hid hQ
  have HBL := Lib.hid (((Below.refl w.heap.size w).alloc (Nat.le_refl _) (.cells #[.int .u64 (b 0), .int .u64 (b 1), .int .u64 (b 2), .int .u64 (b 3), .int .u64 (b 4), .int .u64 (b 5), .int .u64 (b 6), .int .u64 (b 7)] 23)).trans (hbel.mono (by simp)))
  clear hQ hbel
  go_wp2
  go_ret
  exact ⟨r, HQ.out, rfl, HBL.out⟩
end Go.Proofs.Ytkocngnpkfnblaa
