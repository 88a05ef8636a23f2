/- seats: P D. The exports that hand back an array of eight words: what it holds; nothing that was there is turned. (Written by gen_exports.py.) -/
import Derived.Test.YtkocngnpkfnblaaWC
import Derived.Handy
namespace Go.Proofs.Ytkocngnpkfnblaa
open Go.RowKit

/-- eight words are handed back; below the heap's old size nothing has turned -/
def RetArr (w : World) (P : (Nat → Nat) → Prop) (e : Ending) (w' : World) : Prop := ∃ c, P c ∧ e = .returned (.agg #[.int .u64 (c 0), .int .u64 (c 1), .int .u64 (c 2), .int .u64 (c 3), .int .u64 (c 4), .int .u64 (c 5), .int .u64 (c 6), .int .u64 (c 7)]) ∧ Below w.heap.size w w'

theorem Cells8.new' (w : World) (g : Nat) (t : TypeId) (b : Nat → Nat) (hg : g = w.heap.size) : Cells8 (w.alloc (.cells #[.int .u64 (b 0), .int .u64 (b 1), .int .u64 (b 2), .int .u64 (b 3), .int .u64 (b 4), .int .u64 (b 5), .int .u64 (b 6), .int .u64 (b 7)] t)) g t b := by subst hg; exact Cells8.new w t b
theorem Cells8.fill {w : World} {g : Nat} {t : TypeId} {z : Nat → Nat} (h : Cells8 w g t z) (c : Nat → Nat) :
    Cells8 ((((((((w.setCell ⟨g, 0, none⟩ (.int .u64 (c 0))).setCell ⟨g, 1, none⟩ (.int .u64 (c 1))).setCell ⟨g, 2, none⟩ (.int .u64 (c 2))).setCell ⟨g, 3, none⟩ (.int .u64 (c 3))).setCell
      ⟨g, 4, none⟩ (.int .u64 (c 4))).setCell ⟨g, 5, none⟩ (.int .u64 (c 5))).setCell ⟨g, 6, none⟩ (.int .u64 (c 6))).setCell ⟨g, 7, none⟩ (.int .u64 (c 7))) g t c :=
  (((((((h.set (c 0) (j := 0) (by decide)).set (c 1) (j := 1) (by decide)).set (c 2) (j := 2) (by decide)).set (c 3) (j := 3) (by decide)).set (c 4) (j := 4) (by decide)).set (c 5) (j := 5) (by decide)).set (c 6) (j := 6) (by decide)).set (c 7) (j := 7) (by decide)
theorem below_fill {a w : World} {B g : Nat} (h : Below B a w) (hg : B ≤ g) (c : Nat → Nat) :
    Below B a ((((((((w.setCell ⟨g, 0, none⟩ (.int .u64 (c 0))).setCell ⟨g, 1, none⟩ (.int .u64 (c 1))).setCell ⟨g, 2, none⟩ (.int .u64 (c 2))).setCell ⟨g, 3, none⟩ (.int .u64 (c 3))).setCell
      ⟨g, 4, none⟩ (.int .u64 (c 4))).setCell ⟨g, 5, none⟩ (.int .u64 (c 5))).setCell ⟨g, 6, none⟩ (.int .u64 (c 6))).setCell ⟨g, 7, none⟩ (.int .u64 (c 7))) :=
  (((((((h.setCell (by exact hg) _).setCell (by exact hg) _).setCell (by exact hg) _).setCell (by exact hg) _).setCell (by exact hg) _).setCell (by exact hg) _).setCell (by exact hg) _).setCell (by exact hg) _

set_option maxRecDepth 100000 in
set_option maxHeartbeats 400000 in
theorem pub_SetRange (b : Nat → Nat) (i n : Nat) (w : World) (hb : Words b) (hr : 1 ≤ n ∧ i + n ≤ 512) :
    Calls Try.prog 38 #[(.agg #[.int .u64 (b 0), .int .u64 (b 1), .int .u64 (b 2), .int .u64 (b 3), .int .u64 (b 4), .int .u64 (b 5), .int .u64 (b 6), .int .u64 (b 7)]), .int .u64 (i : Int), .int .u64 (n : Int)] w (RetArr w (SetTo b i n)) := by
  have HB := Lib.hid hb
  clear hb
  go_enter Try.func38, Try.ntmps38
  go_wp2_with fail
  refine (setRange_any _ 70 b i n hr.1 hr.2 _ HB.out ?_).mono ?_
  · exact Cells8.new' _ _ _ _ (by simp)
  rintro e w1 ⟨rfl, c, hP, hc', hg⟩
  obtain ⟨f0, f1, f2, f3, f4, f5, f6, f7⟩ := hc'.facts
  have HP := Lib.hid hP
  have hz : Cells8 w1 (w.heap.size + 1) 56 (fun _ => 0) := by
    refine Cells8.grown ?_ hg (by simp)
    exact Cells8.alloc (Cells8.new' (w.alloc (.cells #[.int .u64 (b 0), .int .u64 (b 1), .int .u64 (b 2), .int .u64 (b 3), .int .u64 (b 4), .int .u64 (b 5), .int .u64 (b 6), .int .u64 (b 7)] 56)) (w.heap.size + 1) 56 (fun _ => 0) (by simp)) _
  have HZ := Lib.hid hz
  have hbel : Below w.heap.size w w1 := by
    refine Below.grown ?_ hg (by simp; omega) (by rintro k hk; injection hk with hk; omega)
    exact (((Below.refl _ _).alloc (Nat.le_refl _) _).alloc (by simp) _).alloc (by simp; omega) _
  have HBL := Lib.hid hbel
  obtain ⟨z0, z1, z2, z3, z4, z5, z6, z7⟩ := hz.facts
  have y0 := hz.frozen 0; have y1 := hz.frozen 1; have y2 := hz.frozen 2; have y3 := hz.frozen 3
  have y4 := hz.frozen 4; have y5 := hz.frozen 5; have y6 := hz.frozen 6; have y7 := hz.frozen 7
  clear hg hc' hP hz hbel
  go_wp2
  refine bodyPost_ret (results_cell_row rfl _ _ (w.heap.size + 1) 56 _ (0, 0) _ rfl (HZ.out.fill c) Try.underlying56 rfl (by kernel_rfl)) rfl ⟨c, HP.out, rfl, ?_⟩
  exact below_fill HBL.out (by omega) c

set_option maxRecDepth 100000 in
set_option maxHeartbeats 400000 in
theorem pub_ClearRange (b : Nat → Nat) (i n : Nat) (w : World) (hb : Words b) (hr : 1 ≤ n ∧ i + n ≤ 512) :
    Calls Try.prog 37 #[(.agg #[.int .u64 (b 0), .int .u64 (b 1), .int .u64 (b 2), .int .u64 (b 3), .int .u64 (b 4), .int .u64 (b 5), .int .u64 (b 6), .int .u64 (b 7)]), .int .u64 (i : Int), .int .u64 (n : Int)] w (RetArr w (ClearTo b i n)) := by
  have HB := Lib.hid hb
  clear hb
  go_enter Try.func37, Try.ntmps37
  go_wp2_with fail
  refine (clearRange_any _ 70 b i n hr.1 hr.2 _ HB.out ?_).mono ?_
  · exact Cells8.new' _ _ _ _ (by simp)
  rintro e w1 ⟨rfl, c, hP, hc', hg⟩
  obtain ⟨f0, f1, f2, f3, f4, f5, f6, f7⟩ := hc'.facts
  have HP := Lib.hid hP
  have hz : Cells8 w1 (w.heap.size + 1) 56 (fun _ => 0) := by
    refine Cells8.grown ?_ hg (by simp)
    exact Cells8.alloc (Cells8.new' (w.alloc (.cells #[.int .u64 (b 0), .int .u64 (b 1), .int .u64 (b 2), .int .u64 (b 3), .int .u64 (b 4), .int .u64 (b 5), .int .u64 (b 6), .int .u64 (b 7)] 56)) (w.heap.size + 1) 56 (fun _ => 0) (by simp)) _
  have HZ := Lib.hid hz
  have hbel : Below w.heap.size w w1 := by
    refine Below.grown ?_ hg (by simp; omega) (by rintro k hk; injection hk with hk; omega)
    exact (((Below.refl _ _).alloc (Nat.le_refl _) _).alloc (by simp) _).alloc (by simp; omega) _
  have HBL := Lib.hid hbel
  obtain ⟨z0, z1, z2, z3, z4, z5, z6, z7⟩ := hz.facts
  have y0 := hz.frozen 0; have y1 := hz.frozen 1; have y2 := hz.frozen 2; have y3 := hz.frozen 3
  have y4 := hz.frozen 4; have y5 := hz.frozen 5; have y6 := hz.frozen 6; have y7 := hz.frozen 7
  clear hg hc' hP hz hbel
  go_wp2
  refine bodyPost_ret (results_cell_row rfl _ _ (w.heap.size + 1) 56 _ (0, 0) _ rfl (HZ.out.fill c) Try.underlying56 rfl (by kernel_rfl)) rfl ⟨c, HP.out, rfl, ?_⟩
  exact below_fill HBL.out (by omega) c

set_option maxRecDepth 100000 in
theorem allocRange_any (g t : Nat) (b : Nat → Nat) (i n : Nat) (hn : 1 ≤ n) (hi : i + n ≤ 512) (w : World) (hb : Words b) (hc : Cells8 w g t b) :
    Calls Try.prog 53 #[.pointer (some ⟨g, 0, none⟩), .int .u64 (i : Int), .int .u64 (n : Int)] w (Wrote w g t (SetTo b i n)) := by
  go_enter Try.func53, Try.ntmps53
  go_wp2_with fail
  refine (setRange_any g t b i n hn hi _ hb hc).mono ?_
  rintro e w1 ⟨rfl, h⟩
  have H := Lib.hid h
  clear h hb hc
  go_wp2
  go_end0
  exact ⟨rfl, H.out⟩

set_option maxRecDepth 100000 in
theorem free_any (g t : Nat) (b : Nat → Nat) (i n : Nat) (hn : 1 ≤ n) (hi : i + n ≤ 512) (w : World) (hb : Words b) (hc : Cells8 w g t b) :
    Calls Try.prog 52 #[.pointer (some ⟨g, 0, none⟩), .int .u64 (i : Int), .int .u64 (n : Int)] w (Wrote w g t (ClearTo b i n)) := by
  go_enter Try.func52, Try.ntmps52
  go_wp2_with fail
  refine (clearRange_any g t b i n hn hi _ hb hc).mono ?_
  rintro e w1 ⟨rfl, h⟩
  have H := Lib.hid h
  clear h hb hc
  go_wp2
  go_end0
  exact ⟨rfl, H.out⟩

/-- the word of page i has the mask's bits besides -/
def MaskTo (b : Nat → Nat) (i v : Nat) (c : Nat → Nat) : Prop := c = upd b (i / 64) (b (i / 64) ||| v)

set_option maxRecDepth 100000 in
set_option maxHeartbeats 400000 in
theorem allocPages64_any (g t : Nat) (b : Nat → Nat) (i v : Nat) (hi : i < 512) (hv : v < 18446744073709551616) (w : World) (hb : Words b) (hc : Cells8 w g t b) :
    Calls Try.prog 47 #[.pointer (some ⟨g, 0, none⟩), .int .u64 (i : Int), .int .u64 (v : Int)] w (Wrote w g t (MaskTo b i v)) := by
  have h1 := hc.cell (j := i / 64) (by omega)
  have h2 := hc.frozen (i / 64)
  have HY := Lib.hid (u64_or_nat (b (i / 64)) v (hb _ (by omega)) hv)
  have HC := Lib.hid hc
  clear hc hb
  go_enter Try.func47, Try.ntmps47
  go_wp2
  go_region
  go_wp2
  go_end0
  refine ⟨rfl, _, rfl, ?_, ?_⟩
  · rw [HY.out]; exact (HC.out.set _ (by omega)).drew
  · exact only_drew (only_setCell (only_refl _ _) (.inl rfl) _)

set_option maxRecDepth 100000 in
set_option maxHeartbeats 400000 in
theorem pub_AllocRange (b : Nat → Nat) (i n : Nat) (w : World) (hb : Words b) (hr : 1 ≤ n ∧ i + n ≤ 512) :
    Calls Try.prog 40 #[(.agg #[.int .u64 (b 0), .int .u64 (b 1), .int .u64 (b 2), .int .u64 (b 3), .int .u64 (b 4), .int .u64 (b 5), .int .u64 (b 6), .int .u64 (b 7)]), .int .u64 (i : Int), .int .u64 (n : Int)] w (RetArr w (SetTo b i n)) := by
  have HB := Lib.hid hb
  clear hb
  go_enter Try.func40, Try.ntmps40
  go_wp2_with fail
  refine (allocRange_any _ 68 b i n hr.1 hr.2 _ HB.out ?_).mono ?_
  · exact Cells8.new' _ _ _ _ (by simp)
  rintro e w1 ⟨rfl, c, hP, hc', hg⟩
  obtain ⟨f0, f1, f2, f3, f4, f5, f6, f7⟩ := hc'.facts
  have HP := Lib.hid hP
  have hz : Cells8 w1 (w.heap.size + 1) 56 (fun _ => 0) := by
    refine Cells8.grown ?_ hg (by simp)
    exact Cells8.alloc (Cells8.new' (w.alloc (.cells #[.int .u64 (b 0), .int .u64 (b 1), .int .u64 (b 2), .int .u64 (b 3), .int .u64 (b 4), .int .u64 (b 5), .int .u64 (b 6), .int .u64 (b 7)] 56)) (w.heap.size + 1) 56 (fun _ => 0) (by simp)) _
  have HZ := Lib.hid hz
  have hbel : Below w.heap.size w w1 := by
    refine Below.grown ?_ hg (by simp; omega) (by rintro k hk; injection hk with hk; omega)
    exact (((Below.refl _ _).alloc (Nat.le_refl _) _).alloc (by simp) _).alloc (by simp; omega) _
  have HBL := Lib.hid hbel
  obtain ⟨z0, z1, z2, z3, z4, z5, z6, z7⟩ := hz.facts
  have y0 := hz.frozen 0; have y1 := hz.frozen 1; have y2 := hz.frozen 2; have y3 := hz.frozen 3
  have y4 := hz.frozen 4; have y5 := hz.frozen 5; have y6 := hz.frozen 6; have y7 := hz.frozen 7
  clear hg hc' hP hz hbel
  go_wp2
  refine bodyPost_ret (results_cell_row rfl _ _ (w.heap.size + 1) 56 _ (0, 0) _ rfl (HZ.out.fill c) Try.underlying56 rfl (by kernel_rfl)) rfl ⟨c, HP.out, rfl, ?_⟩
  exact below_fill HBL.out (by omega) c

set_option maxRecDepth 100000 in
set_option maxHeartbeats 400000 in
theorem pub_FreeRange (b : Nat → Nat) (i n : Nat) (w : World) (hb : Words b) (hr : 1 ≤ n ∧ i + n ≤ 512) :
    Calls Try.prog 39 #[(.agg #[.int .u64 (b 0), .int .u64 (b 1), .int .u64 (b 2), .int .u64 (b 3), .int .u64 (b 4), .int .u64 (b 5), .int .u64 (b 6), .int .u64 (b 7)]), .int .u64 (i : Int), .int .u64 (n : Int)] w (RetArr w (ClearTo b i n)) := by
  have HB := Lib.hid hb
  clear hb
  go_enter Try.func39, Try.ntmps39
  go_wp2_with fail
  refine (free_any _ 68 b i n hr.1 hr.2 _ HB.out ?_).mono ?_
  · exact Cells8.new' _ _ _ _ (by simp)
  rintro e w1 ⟨rfl, c, hP, hc', hg⟩
  obtain ⟨f0, f1, f2, f3, f4, f5, f6, f7⟩ := hc'.facts
  have HP := Lib.hid hP
  have hz : Cells8 w1 (w.heap.size + 1) 56 (fun _ => 0) := by
    refine Cells8.grown ?_ hg (by simp)
    exact Cells8.alloc (Cells8.new' (w.alloc (.cells #[.int .u64 (b 0), .int .u64 (b 1), .int .u64 (b 2), .int .u64 (b 3), .int .u64 (b 4), .int .u64 (b 5), .int .u64 (b 6), .int .u64 (b 7)] 56)) (w.heap.size + 1) 56 (fun _ => 0) (by simp)) _
  have HZ := Lib.hid hz
  have hbel : Below w.heap.size w w1 := by
    refine Below.grown ?_ hg (by simp; omega) (by rintro k hk; injection hk with hk; omega)
    exact (((Below.refl _ _).alloc (Nat.le_refl _) _).alloc (by simp) _).alloc (by simp; omega) _
  have HBL := Lib.hid hbel
  obtain ⟨z0, z1, z2, z3, z4, z5, z6, z7⟩ := hz.facts
  have y0 := hz.frozen 0; have y1 := hz.frozen 1; have y2 := hz.frozen 2; have y3 := hz.frozen 3
  have y4 := hz.frozen 4; have y5 := hz.frozen 5; have y6 := hz.frozen 6; have y7 := hz.frozen 7
  clear hg hc' hP hz hbel
  go_wp2
  refine bodyPost_ret (results_cell_row rfl _ _ (w.heap.size + 1) 56 _ (0, 0) _ rfl (HZ.out.fill c) Try.underlying56 rfl (by kernel_rfl)) rfl ⟨c, HP.out, rfl, ?_⟩
  exact below_fill HBL.out (by omega) c

set_option maxRecDepth 100000 in
set_option maxHeartbeats 400000 in
theorem pub_AllocPages64 (b : Nat → Nat) (i v : Nat) (w : World) (hb : Words b) (hr : i < 512 ∧ v < 18446744073709551616) :
    Calls Try.prog 34 #[(.agg #[.int .u64 (b 0), .int .u64 (b 1), .int .u64 (b 2), .int .u64 (b 3), .int .u64 (b 4), .int .u64 (b 5), .int .u64 (b 6), .int .u64 (b 7)]), .int .u64 (i : Int), .int .u64 (v : Int)] w (RetArr w (MaskTo b i v)) := by
  have HB := Lib.hid hb
  clear hb
  go_enter Try.func34, Try.ntmps34
  go_wp2_with fail
  refine (allocPages64_any _ 68 b i v hr.1 hr.2 _ HB.out ?_).mono ?_
  · exact Cells8.new' _ _ _ _ (by simp)
  rintro e w1 ⟨rfl, c, hP, hc', hg⟩
  obtain ⟨f0, f1, f2, f3, f4, f5, f6, f7⟩ := hc'.facts
  have HP := Lib.hid hP
  have hz : Cells8 w1 (w.heap.size + 1) 56 (fun _ => 0) := by
    refine Cells8.grown ?_ hg (by simp)
    exact Cells8.alloc (Cells8.new' (w.alloc (.cells #[.int .u64 (b 0), .int .u64 (b 1), .int .u64 (b 2), .int .u64 (b 3), .int .u64 (b 4), .int .u64 (b 5), .int .u64 (b 6), .int .u64 (b 7)] 56)) (w.heap.size + 1) 56 (fun _ => 0) (by simp)) _
  have HZ := Lib.hid hz
  have hbel : Below w.heap.size w w1 := by
    refine Below.grown ?_ hg (by simp; omega) (by rintro k hk; injection hk with hk; omega)
    exact (((Below.refl _ _).alloc (Nat.le_refl _) _).alloc (by simp) _).alloc (by simp; omega) _
  have HBL := Lib.hid hbel
  obtain ⟨z0, z1, z2, z3, z4, z5, z6, z7⟩ := hz.facts
  have y0 := hz.frozen 0; have y1 := hz.frozen 1; have y2 := hz.frozen 2; have y3 := hz.frozen 3
  have y4 := hz.frozen 4; have y5 := hz.frozen 5; have y6 := hz.frozen 6; have y7 := hz.frozen 7
  clear hg hc' hP hz hbel
  go_wp2
  refine bodyPost_ret (results_cell_row rfl _ _ (w.heap.size + 1) 56 _ (0, 0) _ rfl (HZ.out.fill c) Try.underlying56 rfl (by kernel_rfl)) rfl ⟨c, HP.out, rfl, ?_⟩
  exact below_fill HBL.out (by omega) c

set_option maxRecDepth 100000 in
set_option maxHeartbeats 400000 in
theorem impl_SetRange (b : Nat → Nat) (i n : Nat) (w : World) (hb : Words b) (hr : 1 ≤ n ∧ i + n ≤ 512) :
    Calls Try.prog 23 #[(.agg #[.int .u64 (b 0), .int .u64 (b 1), .int .u64 (b 2), .int .u64 (b 3), .int .u64 (b 4), .int .u64 (b 5), .int .u64 (b 6), .int .u64 (b 7)]), .int .u64 (i : Int), .int .u64 (n : Int)] w (RetArr w (SetTo b i n)) := by
  have HB := Lib.hid hb
  clear hb
  go_enter Try.func23, Try.ntmps23
  go_wp2_with fail
  refine (pub_SetRange b i n _ HB.out (by assumption)).mono ?_
  rintro e w1 ⟨c, hP, rfl, hbel⟩
  have HP := Lib.hid hP
  have hz : Cells8 w1 (w.heap.size + 1) 23 (fun _ => 0) := (Cells8.new' _ _ _ _ (by simp)).below hbel (by simp)
  have HZ := Lib.hid hz
  have HBL := Lib.hid ((((Below.refl w.heap.size w).alloc (Nat.le_refl _) (.cells #[.int .u64 (b 0), .int .u64 (b 1), .int .u64 (b 2), .int .u64 (b 3), .int .u64 (b 4), .int .u64 (b 5), .int .u64 (b 6), .int .u64 (b 7)] 23)).alloc (by simp) (.cells #[.int .u64 ((fun _ => 0) 0), .int .u64 ((fun _ => 0) 1), .int .u64 ((fun _ => 0) 2), .int .u64 ((fun _ => 0) 3), .int .u64 ((fun _ => 0) 4), .int .u64 ((fun _ => 0) 5), .int .u64 ((fun _ => 0) 6), .int .u64 ((fun _ => 0) 7)] 23)).trans (hbel.mono (by simp; omega)))
  obtain ⟨z0, z1, z2, z3, z4, z5, z6, z7⟩ := hz.facts
  have y0 := hz.frozen 0; have y1 := hz.frozen 1; have y2 := hz.frozen 2; have y3 := hz.frozen 3
  have y4 := hz.frozen 4; have y5 := hz.frozen 5; have y6 := hz.frozen 6; have y7 := hz.frozen 7
  clear hP hz hbel
  go_wp2
  refine bodyPost_ret (results_cell_row rfl _ _ (w.heap.size + 1) 23 _ (0, 0) _ rfl (HZ.out.fill c) Try.underlying23 rfl (by kernel_rfl)) rfl ⟨c, HP.out, rfl, ?_⟩
  exact below_fill HBL.out (by omega) c

set_option maxRecDepth 100000 in
set_option maxHeartbeats 400000 in
theorem impl_ClearRange (b : Nat → Nat) (i n : Nat) (w : World) (hb : Words b) (hr : 1 ≤ n ∧ i + n ≤ 512) :
    Calls Try.prog 20 #[(.agg #[.int .u64 (b 0), .int .u64 (b 1), .int .u64 (b 2), .int .u64 (b 3), .int .u64 (b 4), .int .u64 (b 5), .int .u64 (b 6), .int .u64 (b 7)]), .int .u64 (i : Int), .int .u64 (n : Int)] w (RetArr w (ClearTo b i n)) := by
  have HB := Lib.hid hb
  clear hb
  go_enter Try.func20, Try.ntmps20
  go_wp2_with fail
  refine (pub_ClearRange b i n _ HB.out (by assumption)).mono ?_
  rintro e w1 ⟨c, hP, rfl, hbel⟩
  have HP := Lib.hid hP
  have hz : Cells8 w1 (w.heap.size + 1) 23 (fun _ => 0) := (Cells8.new' _ _ _ _ (by simp)).below hbel (by simp)
  have HZ := Lib.hid hz
  have HBL := Lib.hid ((((Below.refl w.heap.size w).alloc (Nat.le_refl _) (.cells #[.int .u64 (b 0), .int .u64 (b 1), .int .u64 (b 2), .int .u64 (b 3), .int .u64 (b 4), .int .u64 (b 5), .int .u64 (b 6), .int .u64 (b 7)] 23)).alloc (by simp) (.cells #[.int .u64 ((fun _ => 0) 0), .int .u64 ((fun _ => 0) 1), .int .u64 ((fun _ => 0) 2), .int .u64 ((fun _ => 0) 3), .int .u64 ((fun _ => 0) 4), .int .u64 ((fun _ => 0) 5), .int .u64 ((fun _ => 0) 6), .int .u64 ((fun _ => 0) 7)] 23)).trans (hbel.mono (by simp; omega)))
  obtain ⟨z0, z1, z2, z3, z4, z5, z6, z7⟩ := hz.facts
  have y0 := hz.frozen 0; have y1 := hz.frozen 1; have y2 := hz.frozen 2; have y3 := hz.frozen 3
  have y4 := hz.frozen 4; have y5 := hz.frozen 5; have y6 := hz.frozen 6; have y7 := hz.frozen 7
  clear hP hz hbel
  go_wp2
  refine bodyPost_ret (results_cell_row rfl _ _ (w.heap.size + 1) 23 _ (0, 0) _ rfl (HZ.out.fill c) Try.underlying23 rfl (by kernel_rfl)) rfl ⟨c, HP.out, rfl, ?_⟩
  exact below_fill HBL.out (by omega) c

set_option maxRecDepth 100000 in
set_option maxHeartbeats 400000 in
theorem impl_AllocRange (b : Nat → Nat) (i n : Nat) (w : World) (hb : Words b) (hr : 1 ≤ n ∧ i + n ≤ 512) :
    Calls Try.prog 25 #[(.agg #[.int .u64 (b 0), .int .u64 (b 1), .int .u64 (b 2), .int .u64 (b 3), .int .u64 (b 4), .int .u64 (b 5), .int .u64 (b 6), .int .u64 (b 7)]), .int .u64 (i : Int), .int .u64 (n : Int)] w (RetArr w (SetTo b i n)) := by
  have HB := Lib.hid hb
  clear hb
  go_enter Try.func25, Try.ntmps25
  go_wp2_with fail
  refine (pub_AllocRange b i n _ HB.out (by assumption)).mono ?_
  rintro e w1 ⟨c, hP, rfl, hbel⟩
  have HP := Lib.hid hP
  have hz : Cells8 w1 (w.heap.size + 1) 23 (fun _ => 0) := (Cells8.new' _ _ _ _ (by simp)).below hbel (by simp)
  have HZ := Lib.hid hz
  have HBL := Lib.hid ((((Below.refl w.heap.size w).alloc (Nat.le_refl _) (.cells #[.int .u64 (b 0), .int .u64 (b 1), .int .u64 (b 2), .int .u64 (b 3), .int .u64 (b 4), .int .u64 (b 5), .int .u64 (b 6), .int .u64 (b 7)] 23)).alloc (by simp) (.cells #[.int .u64 ((fun _ => 0) 0), .int .u64 ((fun _ => 0) 1), .int .u64 ((fun _ => 0) 2), .int .u64 ((fun _ => 0) 3), .int .u64 ((fun _ => 0) 4), .int .u64 ((fun _ => 0) 5), .int .u64 ((fun _ => 0) 6), .int .u64 ((fun _ => 0) 7)] 23)).trans (hbel.mono (by simp; omega)))
  obtain ⟨z0, z1, z2, z3, z4, z5, z6, z7⟩ := hz.facts
  have y0 := hz.frozen 0; have y1 := hz.frozen 1; have y2 := hz.frozen 2; have y3 := hz.frozen 3
  have y4 := hz.frozen 4; have y5 := hz.frozen 5; have y6 := hz.frozen 6; have y7 := hz.frozen 7
  clear hP hz hbel
  go_wp2
  refine bodyPost_ret (results_cell_row rfl _ _ (w.heap.size + 1) 23 _ (0, 0) _ rfl (HZ.out.fill c) Try.underlying23 rfl (by kernel_rfl)) rfl ⟨c, HP.out, rfl, ?_⟩
  exact below_fill HBL.out (by omega) c

set_option maxRecDepth 100000 in
set_option maxHeartbeats 400000 in
theorem impl_FreeRange (b : Nat → Nat) (i n : Nat) (w : World) (hb : Words b) (hr : 1 ≤ n ∧ i + n ≤ 512) :
    Calls Try.prog 24 #[(.agg #[.int .u64 (b 0), .int .u64 (b 1), .int .u64 (b 2), .int .u64 (b 3), .int .u64 (b 4), .int .u64 (b 5), .int .u64 (b 6), .int .u64 (b 7)]), .int .u64 (i : Int), .int .u64 (n : Int)] w (RetArr w (ClearTo b i n)) := by
  have HB := Lib.hid hb
  clear hb
  go_enter Try.func24, Try.ntmps24
  go_wp2_with fail
  refine (pub_FreeRange b i n _ HB.out (by assumption)).mono ?_
  rintro e w1 ⟨c, hP, rfl, hbel⟩
  have HP := Lib.hid hP
  have hz : Cells8 w1 (w.heap.size + 1) 23 (fun _ => 0) := (Cells8.new' _ _ _ _ (by simp)).below hbel (by simp)
  have HZ := Lib.hid hz
  have HBL := Lib.hid ((((Below.refl w.heap.size w).alloc (Nat.le_refl _) (.cells #[.int .u64 (b 0), .int .u64 (b 1), .int .u64 (b 2), .int .u64 (b 3), .int .u64 (b 4), .int .u64 (b 5), .int .u64 (b 6), .int .u64 (b 7)] 23)).alloc (by simp) (.cells #[.int .u64 ((fun _ => 0) 0), .int .u64 ((fun _ => 0) 1), .int .u64 ((fun _ => 0) 2), .int .u64 ((fun _ => 0) 3), .int .u64 ((fun _ => 0) 4), .int .u64 ((fun _ => 0) 5), .int .u64 ((fun _ => 0) 6), .int .u64 ((fun _ => 0) 7)] 23)).trans (hbel.mono (by simp; omega)))
  obtain ⟨z0, z1, z2, z3, z4, z5, z6, z7⟩ := hz.facts
  have y0 := hz.frozen 0; have y1 := hz.frozen 1; have y2 := hz.frozen 2; have y3 := hz.frozen 3
  have y4 := hz.frozen 4; have y5 := hz.frozen 5; have y6 := hz.frozen 6; have y7 := hz.frozen 7
  clear hP hz hbel
  go_wp2
  refine bodyPost_ret (results_cell_row rfl _ _ (w.heap.size + 1) 23 _ (0, 0) _ rfl (HZ.out.fill c) Try.underlying23 rfl (by kernel_rfl)) rfl ⟨c, HP.out, rfl, ?_⟩
  exact below_fill HBL.out (by omega) c

set_option maxRecDepth 100000 in
set_option maxHeartbeats 400000 in
theorem impl_AllocPages64 (b : Nat → Nat) (i v : Nat) (w : World) (hb : Words b) (hr : i < 512 ∧ v < 18446744073709551616) :
    Calls Try.prog 15 #[(.agg #[.int .u64 (b 0), .int .u64 (b 1), .int .u64 (b 2), .int .u64 (b 3), .int .u64 (b 4), .int .u64 (b 5), .int .u64 (b 6), .int .u64 (b 7)]), .int .u64 (i : Int), .int .u64 (v : Int)] w (RetArr w (MaskTo b i v)) := by
  have HB := Lib.hid hb
  clear hb
  go_enter Try.func15, Try.ntmps15
  go_wp2_with fail
  refine (pub_AllocPages64 b i v _ HB.out (by assumption)).mono ?_
  rintro e w1 ⟨c, hP, rfl, hbel⟩
  have HP := Lib.hid hP
  have hz : Cells8 w1 (w.heap.size + 1) 23 (fun _ => 0) := (Cells8.new' _ _ _ _ (by simp)).below hbel (by simp)
  have HZ := Lib.hid hz
  have HBL := Lib.hid ((((Below.refl w.heap.size w).alloc (Nat.le_refl _) (.cells #[.int .u64 (b 0), .int .u64 (b 1), .int .u64 (b 2), .int .u64 (b 3), .int .u64 (b 4), .int .u64 (b 5), .int .u64 (b 6), .int .u64 (b 7)] 23)).alloc (by simp) (.cells #[.int .u64 ((fun _ => 0) 0), .int .u64 ((fun _ => 0) 1), .int .u64 ((fun _ => 0) 2), .int .u64 ((fun _ => 0) 3), .int .u64 ((fun _ => 0) 4), .int .u64 ((fun _ => 0) 5), .int .u64 ((fun _ => 0) 6), .int .u64 ((fun _ => 0) 7)] 23)).trans (hbel.mono (by simp; omega)))
  obtain ⟨z0, z1, z2, z3, z4, z5, z6, z7⟩ := hz.facts
  have y0 := hz.frozen 0; have y1 := hz.frozen 1; have y2 := hz.frozen 2; have y3 := hz.frozen 3
  have y4 := hz.frozen 4; have y5 := hz.frozen 5; have y6 := hz.frozen 6; have y7 := hz.frozen 7
  clear hP hz hbel
  go_wp2
  refine bodyPost_ret (results_cell_row rfl _ _ (w.heap.size + 1) 23 _ (0, 0) _ rfl (HZ.out.fill c) Try.underlying23 rfl (by kernel_rfl)) rfl ⟨c, HP.out, rfl, ?_⟩
  exact below_fill HBL.out (by omega) c
end Go.Proofs.Ytkocngnpkfnblaa
