/- seats: P.
  FnSetClear: for every array of eight words and every i and n: the range that is set and then cleared has no bit 1, the one that is cleared and then set has all; these are what FreeRange and AllocRange make. No condition. (Written by gen_sc.py.)
-/
import Derived.Test.YtkocngnpkfnblaaWF
import Derived.Test.YtkocngnpkfnblaaWQ
import Derived.Deep.DeepCutAuto
namespace Go.Proofs.Ytkocngnpkfnblaa.fnSetClear
open Go.Proofs.Ytkocngnpkfnblaa
open Go.ChangeShapes Go.WideShapes Go.ChangeAt Go.RowKit

theorem clear_of_set {b c d : Nat → Nat} {a m : Nat} (h1 : SetTo b a m c) (h2 : ClearTo c a m d) : ClearTo b a m d :=
  ⟨h2.1, fun j hj => by
    rw [h2.2 j hj, h1.2 j hj]
    cases (decide (a ≤ j) && decide (j < a + m)) <;> simp⟩
theorem set_of_clear {b c d : Nat → Nat} {a m : Nat} (h1 : ClearTo b a m c) (h2 : SetTo c a m d) : SetTo b a m d :=
  ⟨h2.1, fun j hj => by
    rw [h2.2 j hj, h1.2 j hj]
    cases (decide (a ≤ j) && decide (j < a + m)) <;> simp⟩
theorem cnt_set {b c : Nat → Nat} {a m : Nat} (h : SetTo b a m c) (hr : a + m ≤ 512) : cnt (bt c) a m = m :=
  cnt_all fun k hk => by
    rw [h.2 _ (by omega)]
    have : (decide (a ≤ a + k) && decide (a + k < a + m)) = true := by simp; omega
    rw [this, Bool.or_true]
theorem cnt_clear {b c : Nat → Nat} {a m : Nat} (h : ClearTo b a m c) (hr : a + m ≤ 512) : cnt (bt c) a m = 0 :=
  cnt_none fun k hk => by
    rw [h.2 _ (by omega)]
    have : (decide (a ≤ a + k) && decide (a + k < a + m)) = true := by simp; omega
    rw [this, Bool.not_true, Bool.and_false]

/-- the blocks gs hold eight zeros each -/
def Zs (w : World) (gs : List Nat) : Prop := (∀ g ∈ gs, Cells8 w g 23 (fun _ => 0)) ∧ gs.Pairwise (fun g h => ¬ (g = h) ∧ ¬ (h = g))
theorem Zs.nil (w : World) : Zs w [] := ⟨(fun g h => by cases h), List.Pairwise.nil⟩
theorem Zs.drew {w : World} {gs : List Nat} (h : Zs w gs) : Zs w.drew gs := h
theorem Zs.alloc {w : World} {gs : List Nat} (h : Zs w gs) : Zs (w.alloc (.cells #[.int .u64 0, .int .u64 0, .int .u64 0, .int .u64 0, .int .u64 0, .int .u64 0, .int .u64 0, .int .u64 0] 23)) (w.heap.size :: gs) := by
  refine ⟨fun g hg => ?_, ?_⟩
  · rcases List.mem_cons.1 hg with rfl | hg
    · exact heap_alloc_new w _
    · exact (h.1 g hg).alloc _
  · refine List.pairwise_cons.2 ⟨fun g hg => ?_, h.2⟩
    have := (h.1 g hg).lt
    omega
theorem Zs.below {w w2 : World} {gs : List Nat} (h : Zs w gs) (hb : Below w.heap.size w w2) : Zs w2 gs := ⟨fun g hg => (h.1 g hg).below hb (h.1 g hg).lt, h.2⟩
theorem Zs.at {w : World} {gs : List Nat} (h : Zs w gs) {g : Nat} (hg : g ∈ gs) : Cells8 w g 23 (fun _ => 0) := h.1 g hg
theorem Zs.facts {w : World} {gs : List Nat} (h : Zs w gs) : (∀ g ∈ gs, (g < w.heap.size ∧ ¬ (g = w.heap.size) ∧ ¬ (w.heap.size = g) ∧ ¬ (g = w.heap.size + 1) ∧ ¬ (w.heap.size + 1 = g)) ∧ (∀ j, w.frozen? ⟨g, j, none⟩ = false) ∧ w.cell? ⟨g, 0, none⟩ = some (.int .u64 0) ∧ w.cell? ⟨g, 1, none⟩ = some (.int .u64 0) ∧ w.cell? ⟨g, 2, none⟩ = some (.int .u64 0) ∧ w.cell? ⟨g, 3, none⟩ = some (.int .u64 0) ∧
    w.cell? ⟨g, 4, none⟩ = some (.int .u64 0) ∧ w.cell? ⟨g, 5, none⟩ = some (.int .u64 0) ∧ w.cell? ⟨g, 6, none⟩ = some (.int .u64 0) ∧ w.cell? ⟨g, 7, none⟩ = some (.int .u64 0)) ∧ gs.Pairwise (fun g h => ¬ (g = h) ∧ ¬ (h = g)) :=
  ⟨fun g hg => ⟨by have := (h.1 g hg).lt; omega, (h.1 g hg).frozen, (h.1 g hg).facts⟩, h.2⟩

theorem size_set (w : World) (p : Addr) (v : Value) : (w.setCell p v).heap.size = w.heap.size := by simp [World.setCell]
theorem base8 {n : Nat} {b : Nat → Nat} {W : World} {t : TypeId} (h : Cells8 W n t b) : (W.cell? ⟨n, 0, none⟩ = some (.int .u64 (b 0)) ∧ W.cell? ⟨n, 1, none⟩ = some (.int .u64 (b 1)) ∧ W.cell? ⟨n, 2, none⟩ = some (.int .u64 (b 2)) ∧ W.cell? ⟨n, 3, none⟩ = some (.int .u64 (b 3)) ∧ W.cell? ⟨n, 4, none⟩ = some (.int .u64 (b 4)) ∧ W.cell? ⟨n, 5, none⟩ = some (.int .u64 (b 5)) ∧ W.cell? ⟨n, 6, none⟩ = some (.int .u64 (b 6)) ∧ W.cell? ⟨n, 7, none⟩ = some (.int .u64 (b 7)) ∧ Below (n + 1) W W ∧ n < W.heap.size) :=
  let ⟨f0, f1, f2, f3, f4, f5, f6, f7⟩ := h.facts
  ⟨f0, f1, f2, f3, f4, f5, f6, f7, Below.refl _ _, h.lt⟩
theorem keepT {n1 n2 n3 : Nat} {b1 b2 b3 : Nat → Nat} {W0 W w2 : World} (hb : Below W.heap.size W w2) (h : ((W.cell? ⟨n1, 0, none⟩ = some (.int .u64 (b1 0)) ∧ W.cell? ⟨n1, 1, none⟩ = some (.int .u64 (b1 1)) ∧ W.cell? ⟨n1, 2, none⟩ = some (.int .u64 (b1 2)) ∧ W.cell? ⟨n1, 3, none⟩ = some (.int .u64 (b1 3)) ∧ W.cell? ⟨n1, 4, none⟩ = some (.int .u64 (b1 4)) ∧ W.cell? ⟨n1, 5, none⟩ = some (.int .u64 (b1 5)) ∧ W.cell? ⟨n1, 6, none⟩ = some (.int .u64 (b1 6)) ∧ W.cell? ⟨n1, 7, none⟩ = some (.int .u64 (b1 7)) ∧ Below (n1 + 1) W0 W ∧ n1 < W.heap.size)) ∧ ((W.cell? ⟨n2, 0, none⟩ = some (.int .u64 (b2 0)) ∧ W.cell? ⟨n2, 1, none⟩ = some (.int .u64 (b2 1)) ∧ W.cell? ⟨n2, 2, none⟩ = some (.int .u64 (b2 2)) ∧ W.cell? ⟨n2, 3, none⟩ = some (.int .u64 (b2 3)) ∧ W.cell? ⟨n2, 4, none⟩ = some (.int .u64 (b2 4)) ∧ W.cell? ⟨n2, 5, none⟩ = some (.int .u64 (b2 5)) ∧ W.cell? ⟨n2, 6, none⟩ = some (.int .u64 (b2 6)) ∧ W.cell? ⟨n2, 7, none⟩ = some (.int .u64 (b2 7)) ∧ Below (n2 + 1) W0 W ∧ n2 < W.heap.size)) ∧ ((W.cell? ⟨n3, 0, none⟩ = some (.int .u64 (b3 0)) ∧ W.cell? ⟨n3, 1, none⟩ = some (.int .u64 (b3 1)) ∧ W.cell? ⟨n3, 2, none⟩ = some (.int .u64 (b3 2)) ∧ W.cell? ⟨n3, 3, none⟩ = some (.int .u64 (b3 3)) ∧ W.cell? ⟨n3, 4, none⟩ = some (.int .u64 (b3 4)) ∧ W.cell? ⟨n3, 5, none⟩ = some (.int .u64 (b3 5)) ∧ W.cell? ⟨n3, 6, none⟩ = some (.int .u64 (b3 6)) ∧ W.cell? ⟨n3, 7, none⟩ = some (.int .u64 (b3 7)) ∧ Below (n3 + 1) W0 W ∧ n3 < W.heap.size))) : ((w2.cell? ⟨n1, 0, none⟩ = some (.int .u64 (b1 0)) ∧ w2.cell? ⟨n1, 1, none⟩ = some (.int .u64 (b1 1)) ∧ w2.cell? ⟨n1, 2, none⟩ = some (.int .u64 (b1 2)) ∧ w2.cell? ⟨n1, 3, none⟩ = some (.int .u64 (b1 3)) ∧ w2.cell? ⟨n1, 4, none⟩ = some (.int .u64 (b1 4)) ∧ w2.cell? ⟨n1, 5, none⟩ = some (.int .u64 (b1 5)) ∧ w2.cell? ⟨n1, 6, none⟩ = some (.int .u64 (b1 6)) ∧ w2.cell? ⟨n1, 7, none⟩ = some (.int .u64 (b1 7)) ∧ Below (n1 + 1) W0 w2 ∧ n1 < w2.heap.size)) ∧ ((w2.cell? ⟨n2, 0, none⟩ = some (.int .u64 (b2 0)) ∧ w2.cell? ⟨n2, 1, none⟩ = some (.int .u64 (b2 1)) ∧ w2.cell? ⟨n2, 2, none⟩ = some (.int .u64 (b2 2)) ∧ w2.cell? ⟨n2, 3, none⟩ = some (.int .u64 (b2 3)) ∧ w2.cell? ⟨n2, 4, none⟩ = some (.int .u64 (b2 4)) ∧ w2.cell? ⟨n2, 5, none⟩ = some (.int .u64 (b2 5)) ∧ w2.cell? ⟨n2, 6, none⟩ = some (.int .u64 (b2 6)) ∧ w2.cell? ⟨n2, 7, none⟩ = some (.int .u64 (b2 7)) ∧ Below (n2 + 1) W0 w2 ∧ n2 < w2.heap.size)) ∧ ((w2.cell? ⟨n3, 0, none⟩ = some (.int .u64 (b3 0)) ∧ w2.cell? ⟨n3, 1, none⟩ = some (.int .u64 (b3 1)) ∧ w2.cell? ⟨n3, 2, none⟩ = some (.int .u64 (b3 2)) ∧ w2.cell? ⟨n3, 3, none⟩ = some (.int .u64 (b3 3)) ∧ w2.cell? ⟨n3, 4, none⟩ = some (.int .u64 (b3 4)) ∧ w2.cell? ⟨n3, 5, none⟩ = some (.int .u64 (b3 5)) ∧ w2.cell? ⟨n3, 6, none⟩ = some (.int .u64 (b3 6)) ∧ w2.cell? ⟨n3, 7, none⟩ = some (.int .u64 (b3 7)) ∧ Below (n3 + 1) W0 w2 ∧ n3 < w2.heap.size)) :=
  ⟨keep8 hb h.1, keep8 hb h.2.1, keep8 hb h.2.2⟩
theorem keep8_drew {n : Nat} {b : Nat → Nat} {W0 W : World} (h : (W.cell? ⟨n, 0, none⟩ = some (.int .u64 (b 0)) ∧ W.cell? ⟨n, 1, none⟩ = some (.int .u64 (b 1)) ∧ W.cell? ⟨n, 2, none⟩ = some (.int .u64 (b 2)) ∧ W.cell? ⟨n, 3, none⟩ = some (.int .u64 (b 3)) ∧ W.cell? ⟨n, 4, none⟩ = some (.int .u64 (b 4)) ∧ W.cell? ⟨n, 5, none⟩ = some (.int .u64 (b 5)) ∧ W.cell? ⟨n, 6, none⟩ = some (.int .u64 (b 6)) ∧ W.cell? ⟨n, 7, none⟩ = some (.int .u64 (b 7)) ∧ Below (n + 1) W0 W ∧ n < W.heap.size)) : (W.drew.cell? ⟨n, 0, none⟩ = some (.int .u64 (b 0)) ∧ W.drew.cell? ⟨n, 1, none⟩ = some (.int .u64 (b 1)) ∧ W.drew.cell? ⟨n, 2, none⟩ = some (.int .u64 (b 2)) ∧ W.drew.cell? ⟨n, 3, none⟩ = some (.int .u64 (b 3)) ∧ W.drew.cell? ⟨n, 4, none⟩ = some (.int .u64 (b 4)) ∧ W.drew.cell? ⟨n, 5, none⟩ = some (.int .u64 (b 5)) ∧ W.drew.cell? ⟨n, 6, none⟩ = some (.int .u64 (b 6)) ∧ W.drew.cell? ⟨n, 7, none⟩ = some (.int .u64 (b 7)) ∧ Below (n + 1) W0 W.drew ∧ n < W.drew.heap.size) := keep8 ((Below.refl _ _).drew) h

set_option maxRecDepth 100000 in
set_option maxHeartbeats 40000000 in
theorem walk (b : Nat → Nat) (i n : Nat) (w : World) (hb : Words b) (hi : i < 65536) (hn : n < 65536) :
    Calls Try.prog 14 #[(.agg #[.int .u64 (b 0), .int .u64 (b 1), .int .u64 (b 2), .int .u64 (b 3), .int .u64 (b 4), .int .u64 (b 5), .int .u64 (b 6), .int .u64 (b 7)]), .int .u16 (i : Int), .int .u16 (n : Int)] w (RetTrue w) := by
  have HB := Lib.hid hb
  clear hb
  go_enter Try.func14, Try.ntmps14
  go_wp2_with fail
  refine (place_any i n hi hn _).mono ?_
  rintro e w1 ⟨a, m, rfl, hr, hbel⟩
  have hc1 : Cells8 w1 w.heap.size 23 b := (Cells8.new' w _ _ _ rfl).below hbel (by simp)
  have hb1 : Below w.heap.size w w1 := ((Below.refl _ _).alloc (Nat.le_refl _) _).trans (hbel.mono (by simp))
  have hlt1 := hc1.lt
  have HB1 := Lib.hid hb1
  have HC1 := Lib.hid hc1
  have HR := Lib.hid hr
  have hr1 := hr.1
  have hr2 := hr.2
  clear hbel hb1 hc1 hr
  go_upto_region 2 with fail
  go_cut [9, 10] (fun s9 s10 wx => ∃ (g9 g10 : Nat) (x y : Nat → Nat), s9 = .pointer (some ⟨g9, 0, none⟩) ∧ s10 = .pointer (some ⟨g10, 0, none⟩) ∧ Cells8 wx g9 23 x ∧ Cells8 wx g10 23 y ∧ Cells8 wx w.heap.size 23 b ∧ Below w.heap.size w wx ∧ ClearTo b a m x ∧ SetTo b a m y)
  case first =>
    have Z1 := Zs.nil w1
    have S1 := Lib.hid (base8 HC1.out)
    have tk1 : True := trivial
    go_region_held3 (fun w' => (w'.cell? ⟨w.heap.size, 0, none⟩ = some (.int .u64 (b 0)) ∧ w'.cell? ⟨w.heap.size, 1, none⟩ = some (.int .u64 (b 1)) ∧ w'.cell? ⟨w.heap.size, 2, none⟩ = some (.int .u64 (b 2)) ∧ w'.cell? ⟨w.heap.size, 3, none⟩ = some (.int .u64 (b 3)) ∧ w'.cell? ⟨w.heap.size, 4, none⟩ = some (.int .u64 (b 4)) ∧ w'.cell? ⟨w.heap.size, 5, none⟩ = some (.int .u64 (b 5)) ∧ w'.cell? ⟨w.heap.size, 6, none⟩ = some (.int .u64 (b 6)) ∧ w'.cell? ⟨w.heap.size, 7, none⟩ = some (.int .u64 (b 7)) ∧ Below (w.heap.size + 1) w1 w' ∧ w.heap.size < w'.heap.size))
      (first | with_reducible assumption | with_reducible exact first8 HC1.out | with_reducible exact keep8 (by with_reducible assumption) (by with_reducible assumption) | ((repeat (first | with_reducible assumption | with_reducible exact first8 HC1.out | with_reducible exact S5.out | with_reducible exact S4.out | with_reducible exact S3.out | with_reducible exact S2.out | with_reducible exact S1.out | with_reducible refine keep8_drew ?_ | with_reducible refine keep8_alloc ?_ | (with_reducible refine keep8_set ?_ ?_; (focus (dsimp only; omega))))); done))
      (first
       | (have _t := tk1; go_at_call 23; refine (impl_SetRange b a m _ HB.out HR.out).mono ?_; rintro e w2 ⟨c, hP, rfl, hb2⟩; have S2 := Lib.hid (keep8 hb2 (by assumption)); (first | (have Z2 := Zs.below (Z1.alloc.alloc.drew) hb2) | (have Z2 := Zs.below (Z1.drew.alloc.alloc) hb2) | (have Z2 := Zs.below (Z1.alloc.drew) hb2) | (have Z2 := Zs.below (Z1.drew.alloc) hb2) | (have Z2 := Zs.below Z1.drew hb2)); have s2 := hb2.size; (try simp only [World.size_alloc, World.size_drew] at s2); clear _t tk1; have tk2 : True := trivial)
       | (have _t := tk2; go_at_call 20; refine (impl_ClearRange c a m _ hP.1 HR.out).mono ?_; rintro e w3 ⟨x, hX, rfl, hb3⟩; have S3 := Lib.hid (keep8 hb3 (by assumption)); (first | (have Z3 := Zs.below (Z2.alloc.alloc) hb3) | (have Z3 := Zs.below (Z2.alloc) hb3) | (have Z3 := Zs.below Z2 hb3)); have s3 := hb3.size; (try simp only [World.size_alloc, World.size_drew] at s3); clear _t tk2; have tk3 : True := trivial)
       | (have _t := tk3; go_at_call 20; refine (impl_ClearRange b a m _ HB.out HR.out).mono ?_; rintro e w4 ⟨d, hQ, rfl, hb4⟩; have S4 := Lib.hid (keep8 hb4 (by assumption)); (first | (have Z4 := Zs.below (Z3.alloc.alloc) hb4) | (have Z4 := Zs.below (Z3.alloc) hb4) | (have Z4 := Zs.below Z3 hb4)); have s4 := hb4.size; (try simp only [World.size_alloc, World.size_drew] at s4); clear _t tk3; have tk4 : True := trivial)
       | (have _t := tk4; go_at_call 23; refine (impl_SetRange d a m _ hQ.1 HR.out).mono ?_; rintro e w5 ⟨y, hY, rfl, hb5⟩; have S5 := Lib.hid (keep8 hb5 (by assumption)); (first | (have Z5 := Zs.below (Z4.alloc.alloc) hb5) | (have Z5 := Zs.below (Z4.alloc) hb5) | (have Z5 := Zs.below Z4 hb5)); have s5 := hb5.size; (try simp only [World.size_alloc, World.size_drew] at s5); clear _t tk4; have tk5 : True := trivial; have F5 := Z5.facts; simp only [List.forall_mem_cons, List.pairwise_cons, List.Pairwise.nil, List.not_mem_nil, false_implies, implies_true, and_true, true_and, World.size_alloc, World.size_drew] at F5))
    all_goals go_wp2
    all_goals go_meet
    all_goals refine ⟨_, _, x, y, rfl, rfl, ?_, ?_, HC1.out.below (B := w.heap.size + 1) (below8 (n := w.heap.size) (b := b) (W0 := w1) (by with_reducible assumption)) (by omega), HB1.out.trans ((below8 (n := w.heap.size) (b := b) (W0 := w1) (by with_reducible assumption)).mono (by omega)), clear_of_set hP hX, set_of_clear hQ hY⟩
    all_goals (repeat (first | (with_reducible refine Cells8.new' _ _ _ _ ?_; (simp only [World.size_alloc, size_set]; done)) | with_reducible refine Cells8.alloc ?_ _ | with_reducible refine Cells8.drew ?_ | (with_reducible refine Zs.at Z5 ?_; (simp; done)) | with_reducible refine Cells8.fill (z := fun _ => 0) ?_ _ | with_reducible refine Cells8.far ?_ (by simp only [ne_eq]; omega) _))
  case rest =>
    obtain ⟨g9, g10, x, y, rfl, rfl, hx, hy, hbx, hbel, hX, hY⟩ := hcut
    have HX := Lib.hid hX
    have HY := Lib.hid hY
    have HCX := Lib.hid hx
    have HCY := Lib.hid hy
    have HCB := Lib.hid hbx
    have HBL := Lib.hid hbel
    have H0 : Hid (cnt (bt x) a m = 0) := cnt_clear hX hr2
    have HM : Hid (cnt (bt y) a m = m) := cnt_set hY hr2
    clear hX hY hx hy hbx hbel
    have heq1 := eql_same x
    have heq2 := eql_same y
    go_wp2_with fail
    have tk1 : True := trivial
    go_region_held3 (fun w' => ((w'.cell? ⟨g9, 0, none⟩ = some (.int .u64 (x 0)) ∧ w'.cell? ⟨g9, 1, none⟩ = some (.int .u64 (x 1)) ∧ w'.cell? ⟨g9, 2, none⟩ = some (.int .u64 (x 2)) ∧ w'.cell? ⟨g9, 3, none⟩ = some (.int .u64 (x 3)) ∧ w'.cell? ⟨g9, 4, none⟩ = some (.int .u64 (x 4)) ∧ w'.cell? ⟨g9, 5, none⟩ = some (.int .u64 (x 5)) ∧ w'.cell? ⟨g9, 6, none⟩ = some (.int .u64 (x 6)) ∧ w'.cell? ⟨g9, 7, none⟩ = some (.int .u64 (x 7)) ∧ Below (g9 + 1) wc w' ∧ g9 < w'.heap.size)) ∧ ((w'.cell? ⟨g10, 0, none⟩ = some (.int .u64 (y 0)) ∧ w'.cell? ⟨g10, 1, none⟩ = some (.int .u64 (y 1)) ∧ w'.cell? ⟨g10, 2, none⟩ = some (.int .u64 (y 2)) ∧ w'.cell? ⟨g10, 3, none⟩ = some (.int .u64 (y 3)) ∧ w'.cell? ⟨g10, 4, none⟩ = some (.int .u64 (y 4)) ∧ w'.cell? ⟨g10, 5, none⟩ = some (.int .u64 (y 5)) ∧ w'.cell? ⟨g10, 6, none⟩ = some (.int .u64 (y 6)) ∧ w'.cell? ⟨g10, 7, none⟩ = some (.int .u64 (y 7)) ∧ Below (g10 + 1) wc w' ∧ g10 < w'.heap.size)) ∧ ((w'.cell? ⟨w.heap.size, 0, none⟩ = some (.int .u64 (b 0)) ∧ w'.cell? ⟨w.heap.size, 1, none⟩ = some (.int .u64 (b 1)) ∧ w'.cell? ⟨w.heap.size, 2, none⟩ = some (.int .u64 (b 2)) ∧ w'.cell? ⟨w.heap.size, 3, none⟩ = some (.int .u64 (b 3)) ∧ w'.cell? ⟨w.heap.size, 4, none⟩ = some (.int .u64 (b 4)) ∧ w'.cell? ⟨w.heap.size, 5, none⟩ = some (.int .u64 (b 5)) ∧ w'.cell? ⟨w.heap.size, 6, none⟩ = some (.int .u64 (b 6)) ∧ w'.cell? ⟨w.heap.size, 7, none⟩ = some (.int .u64 (b 7)) ∧ Below (w.heap.size + 1) wc w' ∧ w.heap.size < w'.heap.size)))
      (first | with_reducible assumption | exact ⟨first8 HCX.out, first8 HCY.out, first8 HCB.out⟩ | exact keepT (by with_reducible assumption) (by with_reducible assumption))
      (first
       | (have _t := tk1; go_at_call 26; refine (impl_PopCount x a m _ HX.out.1 HR.out).mono ?_; rintro e w2 ⟨r, hr, rfl, hb2⟩; obtain rfl : r = 0 := hr.trans H0.out; clear hr _t tk1; have tk2 : True := trivial)
       | (have _t := tk2; go_at_call 26; refine (impl_PopCount y a m _ HY.out.1 HR.out).mono ?_; rintro e w3 ⟨r, hr, rfl, hb3⟩; obtain rfl : m = r := (hr.trans HM.out).symm; clear hr _t tk2; have tk3 : True := trivial)
       | (have _t := tk3; go_at_call 24; refine (impl_FreeRange_eq b a m x HX.out _ HB.out HR.out).mono ?_; rintro e w4 ⟨rfl, hb4⟩; clear _t tk3; have tk4 : True := trivial)
       | (have _t := tk4; go_at_call 25; refine (impl_AllocRange_eq b a m y HY.out _ HB.out HR.out).mono ?_; rintro e w5 ⟨rfl, hb5⟩; clear _t tk4; have tk5 : True := trivial))
    rename_i hS
    have hfin : Below w.heap.size w w5 := HBL.out.trans ((below8 hS.2.2).mono (by omega))
    have HF := Lib.hid hfin
    clear hS hb2 hb3 hb4 hb5 hfin
    go_wp2
    go_ret
    exact ⟨rfl, HF.out⟩

end Go.Proofs.Ytkocngnpkfnblaa.fnSetClear
