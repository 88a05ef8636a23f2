/- seats: D.
  FnMergeChunks: for every two arrays of eight words: the merged summaries of their chunks are the summary of all their pages, one behind the other. No condition but the table that the row lists. (Written by gen_ld.py.)
-/
import Derived.Test.YtkocngnpkfnblaaDoorWD
import Derived.Test.YtkocngnpkfnblaaDoorWJ
import Derived.Test.YtkocngnpkfnblaaDoorWL
import Derived.Test.YtkocngnpkfnblaaDoorMI
import Derived.Test.YtkocngnpkfnblaaDoorWY2
import Derived.Deep.DeepCutAuto
import Derived.Deep.AppendLies
namespace Go.Proofs.YtkocngnpkfnblaaDoor.fnMergeChunks
open Go.Proofs.YtkocngnpkfnblaaDoor
open Go.ChangeShapes Go.WideShapes Go.ChangeAt Go.RowKit

/-- the pages of both -/
def uu (a b : Nat → Nat) (k : Nat) : Bool := if k < 512 then bt a k else bt b (k - 512)
theorem uu_lo {a b : Nat → Nat} {k : Nat} (h : k < 512) : uu a b k = bt a k := if_pos h
theorem uu_hi {a b : Nat → Nat} {k : Nat} : uu a b (512 + k) = bt b k := by
  unfold uu
  rw [if_neg (by omega), show 512 + k - 512 = k from by omega]
theorem uu_pages_of (a b : Nat → Nat) (n m : Nat) : pg a n ++ pg b m = upg (fun k => if k < n then bt a k else bt b (k - n)) (n + m) := by
  rw [upg_add, pg_upg, pg_upg]
  congr 1
  · exact upg_congr fun k hk => (if_pos hk).symm
  · refine upg_congr fun k _ => ?_
    rw [if_neg (by omega), show n + k - n = k from by omega]
theorem uu_pages (a b : Nat → Nat) : pg a 512 ++ pg b 512 = upg (uu a b) 1024 := uu_pages_of a b 512 512
theorem uu_parts {a b : Nat → Nat} {s m e s' m' e' : Nat} (h : IsSum (bt a) 512 s m e) (h' : IsSum (bt b) 512 s' m' e') : Parts (uu a b) 512 2 (two s s') (two m m') (two e e') := fun i hi => by
  match i, hi with
  | 0, _ => exact h.congr fun k hk => by rw [Nat.zero_mul, Nat.zero_add]; exact (uu_lo hk).symm
  | 1, _ => exact h'.congr fun k _ => by rw [Nat.one_mul]; exact uu_hi.symm

theorem keep8b {n B : Nat} {b : Nat → Nat} {W0 W w2 : World} (hB : n < B) (hb : Below B W w2) (h : (W.cell? ⟨n, 0, none⟩ = some (.int .u64 (b 0)) ∧ W.cell? ⟨n, 1, none⟩ = some (.int .u64 (b 1)) ∧ W.cell? ⟨n, 2, none⟩ = some (.int .u64 (b 2)) ∧ W.cell? ⟨n, 3, none⟩ = some (.int .u64 (b 3)) ∧ W.cell? ⟨n, 4, none⟩ = some (.int .u64 (b 4)) ∧ W.cell? ⟨n, 5, none⟩ = some (.int .u64 (b 5)) ∧ W.cell? ⟨n, 6, none⟩ = some (.int .u64 (b 6)) ∧ W.cell? ⟨n, 7, none⟩ = some (.int .u64 (b 7)) ∧ Below (n + 1) W0 W ∧ n < W.heap.size)) : (w2.cell? ⟨n, 0, none⟩ = some (.int .u64 (b 0)) ∧ w2.cell? ⟨n, 1, none⟩ = some (.int .u64 (b 1)) ∧ w2.cell? ⟨n, 2, none⟩ = some (.int .u64 (b 2)) ∧ w2.cell? ⟨n, 3, none⟩ = some (.int .u64 (b 3)) ∧ w2.cell? ⟨n, 4, none⟩ = some (.int .u64 (b 4)) ∧ w2.cell? ⟨n, 5, none⟩ = some (.int .u64 (b 5)) ∧ w2.cell? ⟨n, 6, none⟩ = some (.int .u64 (b 6)) ∧ w2.cell? ⟨n, 7, none⟩ = some (.int .u64 (b 7)) ∧ Below (n + 1) W0 w2 ∧ n < w2.heap.size) := by
  obtain ⟨f0, f1, f2, f3, f4, f5, f6, f7, hB0, hn⟩ := h
  have t : ∀ j v, W.cell? ⟨n, j, none⟩ = some v → w2.cell? ⟨n, j, none⟩ = some v := fun j v h => (hb.cell (p := ⟨n, j, none⟩) hB).trans h
  have := hb.size
  exact ⟨t _ _ f0, t _ _ f1, t _ _ f2, t _ _ f3, t _ _ f4, t _ _ f5, t _ _ f6, t _ _ f7, hB0.trans (hb.mono (by omega)), by omega⟩
theorem keepD {n1 n2 : Nat} {b1 b2 : Nat → Nat} {W0 W w2 : World} (hb : Below W.heap.size W w2) (h : ((W.cell? ⟨n1, 0, none⟩ = some (.int .u64 (b1 0)) ∧ W.cell? ⟨n1, 1, none⟩ = some (.int .u64 (b1 1)) ∧ W.cell? ⟨n1, 2, none⟩ = some (.int .u64 (b1 2)) ∧ W.cell? ⟨n1, 3, none⟩ = some (.int .u64 (b1 3)) ∧ W.cell? ⟨n1, 4, none⟩ = some (.int .u64 (b1 4)) ∧ W.cell? ⟨n1, 5, none⟩ = some (.int .u64 (b1 5)) ∧ W.cell? ⟨n1, 6, none⟩ = some (.int .u64 (b1 6)) ∧ W.cell? ⟨n1, 7, none⟩ = some (.int .u64 (b1 7)) ∧ Below (n1 + 1) W0 W ∧ n1 < W.heap.size)) ∧ ((W.cell? ⟨n2, 0, none⟩ = some (.int .u64 (b2 0)) ∧ W.cell? ⟨n2, 1, none⟩ = some (.int .u64 (b2 1)) ∧ W.cell? ⟨n2, 2, none⟩ = some (.int .u64 (b2 2)) ∧ W.cell? ⟨n2, 3, none⟩ = some (.int .u64 (b2 3)) ∧ W.cell? ⟨n2, 4, none⟩ = some (.int .u64 (b2 4)) ∧ W.cell? ⟨n2, 5, none⟩ = some (.int .u64 (b2 5)) ∧ W.cell? ⟨n2, 6, none⟩ = some (.int .u64 (b2 6)) ∧ W.cell? ⟨n2, 7, none⟩ = some (.int .u64 (b2 7)) ∧ Below (n2 + 1) W0 W ∧ n2 < W.heap.size))) : ((w2.cell? ⟨n1, 0, none⟩ = some (.int .u64 (b1 0)) ∧ w2.cell? ⟨n1, 1, none⟩ = some (.int .u64 (b1 1)) ∧ w2.cell? ⟨n1, 2, none⟩ = some (.int .u64 (b1 2)) ∧ w2.cell? ⟨n1, 3, none⟩ = some (.int .u64 (b1 3)) ∧ w2.cell? ⟨n1, 4, none⟩ = some (.int .u64 (b1 4)) ∧ w2.cell? ⟨n1, 5, none⟩ = some (.int .u64 (b1 5)) ∧ w2.cell? ⟨n1, 6, none⟩ = some (.int .u64 (b1 6)) ∧ w2.cell? ⟨n1, 7, none⟩ = some (.int .u64 (b1 7)) ∧ Below (n1 + 1) W0 w2 ∧ n1 < w2.heap.size)) ∧ ((w2.cell? ⟨n2, 0, none⟩ = some (.int .u64 (b2 0)) ∧ w2.cell? ⟨n2, 1, none⟩ = some (.int .u64 (b2 1)) ∧ w2.cell? ⟨n2, 2, none⟩ = some (.int .u64 (b2 2)) ∧ w2.cell? ⟨n2, 3, none⟩ = some (.int .u64 (b2 3)) ∧ w2.cell? ⟨n2, 4, none⟩ = some (.int .u64 (b2 4)) ∧ w2.cell? ⟨n2, 5, none⟩ = some (.int .u64 (b2 5)) ∧ w2.cell? ⟨n2, 6, none⟩ = some (.int .u64 (b2 6)) ∧ w2.cell? ⟨n2, 7, none⟩ = some (.int .u64 (b2 7)) ∧ Below (n2 + 1) W0 w2 ∧ n2 < w2.heap.size)) :=
  ⟨keep8 hb h.1, keep8 hb h.2⟩
theorem keepG {n1 n2 : Nat} {b1 b2 : Nat → Nat} {W0 W w2 : World} {row : Option Nat} (hg : W.grownBy w2 row) (h : ((W.cell? ⟨n1, 0, none⟩ = some (.int .u64 (b1 0)) ∧ W.cell? ⟨n1, 1, none⟩ = some (.int .u64 (b1 1)) ∧ W.cell? ⟨n1, 2, none⟩ = some (.int .u64 (b1 2)) ∧ W.cell? ⟨n1, 3, none⟩ = some (.int .u64 (b1 3)) ∧ W.cell? ⟨n1, 4, none⟩ = some (.int .u64 (b1 4)) ∧ W.cell? ⟨n1, 5, none⟩ = some (.int .u64 (b1 5)) ∧ W.cell? ⟨n1, 6, none⟩ = some (.int .u64 (b1 6)) ∧ W.cell? ⟨n1, 7, none⟩ = some (.int .u64 (b1 7)) ∧ Below (n1 + 1) W0 W ∧ n1 < W.heap.size)) ∧ ((W.cell? ⟨n2, 0, none⟩ = some (.int .u64 (b2 0)) ∧ W.cell? ⟨n2, 1, none⟩ = some (.int .u64 (b2 1)) ∧ W.cell? ⟨n2, 2, none⟩ = some (.int .u64 (b2 2)) ∧ W.cell? ⟨n2, 3, none⟩ = some (.int .u64 (b2 3)) ∧ W.cell? ⟨n2, 4, none⟩ = some (.int .u64 (b2 4)) ∧ W.cell? ⟨n2, 5, none⟩ = some (.int .u64 (b2 5)) ∧ W.cell? ⟨n2, 6, none⟩ = some (.int .u64 (b2 6)) ∧ W.cell? ⟨n2, 7, none⟩ = some (.int .u64 (b2 7)) ∧ Below (n2 + 1) W0 W ∧ n2 < W.heap.size))) (hr : ∀ q, row = some q → n1 < q ∧ n2 < q) : ((w2.cell? ⟨n1, 0, none⟩ = some (.int .u64 (b1 0)) ∧ w2.cell? ⟨n1, 1, none⟩ = some (.int .u64 (b1 1)) ∧ w2.cell? ⟨n1, 2, none⟩ = some (.int .u64 (b1 2)) ∧ w2.cell? ⟨n1, 3, none⟩ = some (.int .u64 (b1 3)) ∧ w2.cell? ⟨n1, 4, none⟩ = some (.int .u64 (b1 4)) ∧ w2.cell? ⟨n1, 5, none⟩ = some (.int .u64 (b1 5)) ∧ w2.cell? ⟨n1, 6, none⟩ = some (.int .u64 (b1 6)) ∧ w2.cell? ⟨n1, 7, none⟩ = some (.int .u64 (b1 7)) ∧ Below (n1 + 1) W0 w2 ∧ n1 < w2.heap.size)) ∧ ((w2.cell? ⟨n2, 0, none⟩ = some (.int .u64 (b2 0)) ∧ w2.cell? ⟨n2, 1, none⟩ = some (.int .u64 (b2 1)) ∧ w2.cell? ⟨n2, 2, none⟩ = some (.int .u64 (b2 2)) ∧ w2.cell? ⟨n2, 3, none⟩ = some (.int .u64 (b2 3)) ∧ w2.cell? ⟨n2, 4, none⟩ = some (.int .u64 (b2 4)) ∧ w2.cell? ⟨n2, 5, none⟩ = some (.int .u64 (b2 5)) ∧ w2.cell? ⟨n2, 6, none⟩ = some (.int .u64 (b2 6)) ∧ w2.cell? ⟨n2, 7, none⟩ = some (.int .u64 (b2 7)) ∧ Below (n2 + 1) W0 w2 ∧ n2 < w2.heap.size)) :=
  ⟨keep8b (B := n1 + 1) (by omega) ((Below.refl _ W).grown hg (size8 h.1) fun q hq => (hr q hq).1) h.1, keep8b (B := n2 + 1) (by omega) ((Below.refl _ W).grown hg (size8 h.2) fun q hq => (hr q hq).2) h.2⟩
theorem keepQ {n1 n2 : Nat} {b1 b2 : Nat → Nat} {W0 W w2 : World} (hb : Below W.heap.size W w2) (h : (((W.cell? ⟨n1, 0, none⟩ = some (.int .u64 (b1 0)) ∧ W.cell? ⟨n1, 1, none⟩ = some (.int .u64 (b1 1)) ∧ W.cell? ⟨n1, 2, none⟩ = some (.int .u64 (b1 2)) ∧ W.cell? ⟨n1, 3, none⟩ = some (.int .u64 (b1 3)) ∧ W.cell? ⟨n1, 4, none⟩ = some (.int .u64 (b1 4)) ∧ W.cell? ⟨n1, 5, none⟩ = some (.int .u64 (b1 5)) ∧ W.cell? ⟨n1, 6, none⟩ = some (.int .u64 (b1 6)) ∧ W.cell? ⟨n1, 7, none⟩ = some (.int .u64 (b1 7)) ∧ Below (n1 + 1) W0 W ∧ n1 < W.heap.size)) ∧ ((W.cell? ⟨n2, 0, none⟩ = some (.int .u64 (b2 0)) ∧ W.cell? ⟨n2, 1, none⟩ = some (.int .u64 (b2 1)) ∧ W.cell? ⟨n2, 2, none⟩ = some (.int .u64 (b2 2)) ∧ W.cell? ⟨n2, 3, none⟩ = some (.int .u64 (b2 3)) ∧ W.cell? ⟨n2, 4, none⟩ = some (.int .u64 (b2 4)) ∧ W.cell? ⟨n2, 5, none⟩ = some (.int .u64 (b2 5)) ∧ W.cell? ⟨n2, 6, none⟩ = some (.int .u64 (b2 6)) ∧ W.cell? ⟨n2, 7, none⟩ = some (.int .u64 (b2 7)) ∧ Below (n2 + 1) W0 W ∧ n2 < W.heap.size))) ∧ Below W0.heap.size W0 W) : (((w2.cell? ⟨n1, 0, none⟩ = some (.int .u64 (b1 0)) ∧ w2.cell? ⟨n1, 1, none⟩ = some (.int .u64 (b1 1)) ∧ w2.cell? ⟨n1, 2, none⟩ = some (.int .u64 (b1 2)) ∧ w2.cell? ⟨n1, 3, none⟩ = some (.int .u64 (b1 3)) ∧ w2.cell? ⟨n1, 4, none⟩ = some (.int .u64 (b1 4)) ∧ w2.cell? ⟨n1, 5, none⟩ = some (.int .u64 (b1 5)) ∧ w2.cell? ⟨n1, 6, none⟩ = some (.int .u64 (b1 6)) ∧ w2.cell? ⟨n1, 7, none⟩ = some (.int .u64 (b1 7)) ∧ Below (n1 + 1) W0 w2 ∧ n1 < w2.heap.size)) ∧ ((w2.cell? ⟨n2, 0, none⟩ = some (.int .u64 (b2 0)) ∧ w2.cell? ⟨n2, 1, none⟩ = some (.int .u64 (b2 1)) ∧ w2.cell? ⟨n2, 2, none⟩ = some (.int .u64 (b2 2)) ∧ w2.cell? ⟨n2, 3, none⟩ = some (.int .u64 (b2 3)) ∧ w2.cell? ⟨n2, 4, none⟩ = some (.int .u64 (b2 4)) ∧ w2.cell? ⟨n2, 5, none⟩ = some (.int .u64 (b2 5)) ∧ w2.cell? ⟨n2, 6, none⟩ = some (.int .u64 (b2 6)) ∧ w2.cell? ⟨n2, 7, none⟩ = some (.int .u64 (b2 7)) ∧ Below (n2 + 1) W0 w2 ∧ n2 < w2.heap.size))) ∧ Below W0.heap.size W0 w2 :=
  ⟨keepD hb h.1, h.2.trans (hb.mono h.2.size)⟩
theorem owns_later {w w' : World} {base e size : Nat} {v : Value} {n : Nat} {xs : List Value} (h : w.ownsRow base e size v n xs) (hb : Below w.heap.size w w') : w'.ownsRow base e size v n xs := by
  have ho := h
  refine ⟨h.1, ?_⟩
  rcases h.2 with h2 | ⟨g, cap, cur, rfl, hg, hh, r⟩
  · exact .inl h2
  · exact .inr ⟨g, cap, cur, rfl, hg, (hb.block g (World.ownsRow.lt ho g rfl).2).trans hh, r⟩
/-- the pages of the box, in a slice of 512 -/
theorem pages_box2 {n : Nat} {b : Nat → Nat} {W0 : World} (W : World) (hb : Words b) (h : (W.cell? ⟨n, 0, none⟩ = some (.int .u64 (b 0)) ∧ W.cell? ⟨n, 1, none⟩ = some (.int .u64 (b 1)) ∧ W.cell? ⟨n, 2, none⟩ = some (.int .u64 (b 2)) ∧ W.cell? ⟨n, 3, none⟩ = some (.int .u64 (b 3)) ∧ W.cell? ⟨n, 4, none⟩ = some (.int .u64 (b 4)) ∧ W.cell? ⟨n, 5, none⟩ = some (.int .u64 (b 5)) ∧ W.cell? ⟨n, 6, none⟩ = some (.int .u64 (b 6)) ∧ W.cell? ⟨n, 7, none⟩ = some (.int .u64 (b 7)) ∧ Below (n + 1) W0 W ∧ n < W.heap.size)) :
    Calls Tryd.prog 22 #[.slice (some ⟨n, 0, none⟩) 8 8] W fun e w' => ∃ g cap, e = .returned (.slice (some ⟨g, 0, none⟩) 512 cap) ∧ W.heap.size ≤ g ∧ w'.ownsRow W.heap.size 4 1 (.slice (some ⟨g, 0, none⟩) 512 cap) 512 ((pg b 512).map Value.bool) ∧ Below W.heap.size W w' :=
  (pages_box W hb h).mono fun e w' ⟨v, he, hl, hw⟩ => by
    unfold Lst at hl
    rw [pg_length] at hl
    obtain ⟨g, cap, rfl, hg, _⟩ := hl.form (by decide)
    exact ⟨g, cap, he, hg, hl, hw⟩
theorem news_pages {w : World} {base g cap : Nat} {l : List Value} (hl : l.length = 512) (h : w.ownsRow base 4 1 (.slice (some ⟨g, 0, none⟩) 512 cap) 512 l) : ∀ j u, l[j]? = some u → w.cell? ((⟨g, 0, none⟩ : Addr).add j) = some u := fun j u hu => by
  have hj : j < 512 := by
    apply Nat.lt_of_not_le
    intro hle
    rw [List.getElem?_eq_none (by omega)] at hu
    cases hu
  have hc := h.cellAt j (by omega)
  rw [hu] at hc
  unfold Addr.add
  split
  · rename_i h0; subst h0; exact hc
  · simpa using hc
theorem bools_one {l : List Bool} : ∀ u ∈ l.map Value.bool, u.oneCell' = true := fun u hu => by
  obtain ⟨x, _, rfl⟩ := List.mem_map.1 hu
  rfl
theorem reads_of_owns {w : World} {base g cap n : Nat} {l : List Bool} (hn : l.length = n) (h0 : 0 < n) (h : w.ownsRow base 4 1 (.slice (some ⟨g, 0, none⟩) n cap) n (l.map Value.bool)) : Reads w w.heap.size (.slice (some ⟨g, 0, none⟩) n cap) l := by
  subst hn
  exact Lst.reads (base := base) h (List.length_pos_iff.1 h0)

set_option maxRecDepth 100000 in
set_option maxHeartbeats 1600000 in
theorem walk (a b : Nat → Nat) (w : World) (ha : Words a) (hb : Words b) (hT : Tab w) :
    Calls Tryd.prog 15 #[(.agg #[.int .u64 (a 0), .int .u64 (a 1), .int .u64 (a 2), .int .u64 (a 3), .int .u64 (a 4), .int .u64 (a 5), .int .u64 (a 6), .int .u64 (a 7)]), (.agg #[.int .u64 (b 0), .int .u64 (b 1), .int .u64 (b 2), .int .u64 (b 3), .int .u64 (b 4), .int .u64 (b 5), .int .u64 (b 6), .int .u64 (b 7)])] w (RetTrue w) := by
  have HA := Lib.hid ha
  have HB := Lib.hid hb
  have HT := Lib.hid hT
  clear ha hb hT
  obtain ⟨i0, hi, hz0, hz1, hz2⟩ := info_parts infoBool
  obtain ⟨⟨sa, ma, ca⟩, h1⟩ := sum_exists (bt a) 512
  obtain ⟨⟨sb, mb, cb⟩, h2⟩ := sum_exists (bt b) 512
  obtain ⟨⟨x, y, z⟩, h3⟩ := sum_exists (uu a b) 1024
  have HSA : Hid (IsSum (bt a) 512 sa ma ca) := h1
  have HSB : Hid (IsSum (bt b) 512 sb mb cb) := h2
  have HU : Hid (IsSum (uu a b) 1024 x y z) := h3
  have HPT := Lib.hid (uu_parts HSA.out HSB.out)
  clear h1 h2 h3
  go_enter Tryd.func15, Tryd.ntmps15
  go_wp2_with fail
  generalize hW1 : (w.alloc _).alloc _ = W1
  have hc1 : Cells8 W1 w.heap.size 23 a := by rw [← hW1]; exact Cells8.alloc (Cells8.new' _ _ _ _ rfl) _
  have hd1 : Cells8 W1 (w.heap.size + 1) 23 b := by rw [← hW1]; exact Cells8.new' _ _ _ _ (by simp)
  have hb1 : Below w.heap.size w W1 := by rw [← hW1]; exact below_two _ _ _
  have hsz : W1.heap.size = w.heap.size + 2 := by rw [← hW1]; simp
  clear hW1
  have HC1 := Lib.hid hc1
  have HD1 := Lib.hid hd1
  have HB1 := Lib.hid hb1
  clear hc1 hd1 hb1
  have tk1 : True := trivial
  go_region_held3 (fun w' => ((w'.cell? ⟨w.heap.size, 0, none⟩ = some (.int .u64 (a 0)) ∧ w'.cell? ⟨w.heap.size, 1, none⟩ = some (.int .u64 (a 1)) ∧ w'.cell? ⟨w.heap.size, 2, none⟩ = some (.int .u64 (a 2)) ∧ w'.cell? ⟨w.heap.size, 3, none⟩ = some (.int .u64 (a 3)) ∧ w'.cell? ⟨w.heap.size, 4, none⟩ = some (.int .u64 (a 4)) ∧ w'.cell? ⟨w.heap.size, 5, none⟩ = some (.int .u64 (a 5)) ∧ w'.cell? ⟨w.heap.size, 6, none⟩ = some (.int .u64 (a 6)) ∧ w'.cell? ⟨w.heap.size, 7, none⟩ = some (.int .u64 (a 7)) ∧ Below (w.heap.size + 1) W1 w' ∧ w.heap.size < w'.heap.size)) ∧ ((w'.cell? ⟨(w.heap.size + 1), 0, none⟩ = some (.int .u64 (b 0)) ∧ w'.cell? ⟨(w.heap.size + 1), 1, none⟩ = some (.int .u64 (b 1)) ∧ w'.cell? ⟨(w.heap.size + 1), 2, none⟩ = some (.int .u64 (b 2)) ∧ w'.cell? ⟨(w.heap.size + 1), 3, none⟩ = some (.int .u64 (b 3)) ∧ w'.cell? ⟨(w.heap.size + 1), 4, none⟩ = some (.int .u64 (b 4)) ∧ w'.cell? ⟨(w.heap.size + 1), 5, none⟩ = some (.int .u64 (b 5)) ∧ w'.cell? ⟨(w.heap.size + 1), 6, none⟩ = some (.int .u64 (b 6)) ∧ w'.cell? ⟨(w.heap.size + 1), 7, none⟩ = some (.int .u64 (b 7)) ∧ Below ((w.heap.size + 1) + 1) W1 w' ∧ (w.heap.size + 1) < w'.heap.size)))
    (first | with_reducible assumption | exact ⟨first8 HC1.out, first8 HD1.out⟩ | exact keepD (by with_reducible assumption) (by with_reducible assumption))
    (first
     | (have _t := tk1; go_at_call 22; refine (pages_box2 _ HA.out (And.left (by with_reducible assumption))).mono ?_; rintro e w2 ⟨ga, capa, rfl, hga, hla, hb2⟩; (try simp only [World.size_drew] at hga); have s2 := hb2.size; (try simp only [World.size_drew] at s2); have HLA := Lib.hid hla; clear hla _t tk1; have tk2 : True := trivial)
     | (have _t := tk2; go_at_call 22; refine (pages_box2 _ HB.out (And.right (by with_reducible assumption))).mono ?_; rintro e w3 ⟨gb, capb, rfl, hgb, hlb, hb3⟩; have s3 := hb3.size; have HLB := Lib.hid hlb; have HLA3 := Lib.hid (owns_later HLA.out hb3); clear hlb _t tk2; have tk3 : True := trivial)
     | (have _t := tk3; refine step_append_lies _ (by rfl) _ _ _ (by rfl) _ 4 i0 (.bool false) 1 1 Tryd.underlying35 hi hz0 hz1 hz2 (by rfl) (by decide) _ 512 _ (by rfl) HLA3.out ⟨gb, 0, none⟩ 512 capb ((pg b 512).map Value.bool) (by rfl) (by simp [pg_length]) (news_pages (by simp [pg_length]) HLB.out) bools_one (by decide) (by unfold maxLen; decide) (by decide) (by simp only [World.size_drew]; omega) _ rfl ?_; intro g cap w4 hown hgrow hat hlt; have hS4 := keepG hgrow (by with_reducible assumption) (fun q hq => by simp [Value.ownBlock] at hq; omega); have HO := Lib.hid hown; clear hown hat _t tk3; have tk4 : True := trivial))
  rename_i hS
  have hlen : (pg a 512 ++ pg b 512).length = 512 + 512 := by rw [List.length_append, pg_length, pg_length]
  have ho := HO.out
  rw [← List.map_append] at ho
  have hrd := reads_of_owns hlen (by decide) ho
  rw [uu_pages] at hrd
  have HRD : Hid (Reads w4 w4.heap.size (.slice (some ⟨g, 0, none⟩) 1024 cap) (upg (uu a b) 1024)) := hrd
  have HC4 := Lib.hid (HC1.out.below (below8 hS.1) (by omega))
  have HD4 := Lib.hid (HD1.out.below (below8 hS.2) (by omega))
  have HB4 := Lib.hid (HB1.out.trans ((below8 hS.1).mono (by omega)))
  have HT4 := Lib.hid (HT.out.of HB4.out)
  clear hS hS4 hgrow hlt hb2 hb3 hga hgb s2 s3 ho hrd hlen HO HLA HLB HLA3
  go_wp2_with fail
  have tk5 : True := trivial
  go_region_held3 (fun w' => (((w'.cell? ⟨w.heap.size, 0, none⟩ = some (.int .u64 (a 0)) ∧ w'.cell? ⟨w.heap.size, 1, none⟩ = some (.int .u64 (a 1)) ∧ w'.cell? ⟨w.heap.size, 2, none⟩ = some (.int .u64 (a 2)) ∧ w'.cell? ⟨w.heap.size, 3, none⟩ = some (.int .u64 (a 3)) ∧ w'.cell? ⟨w.heap.size, 4, none⟩ = some (.int .u64 (a 4)) ∧ w'.cell? ⟨w.heap.size, 5, none⟩ = some (.int .u64 (a 5)) ∧ w'.cell? ⟨w.heap.size, 6, none⟩ = some (.int .u64 (a 6)) ∧ w'.cell? ⟨w.heap.size, 7, none⟩ = some (.int .u64 (a 7)) ∧ Below (w.heap.size + 1) w4 w' ∧ w.heap.size < w'.heap.size)) ∧ ((w'.cell? ⟨(w.heap.size + 1), 0, none⟩ = some (.int .u64 (b 0)) ∧ w'.cell? ⟨(w.heap.size + 1), 1, none⟩ = some (.int .u64 (b 1)) ∧ w'.cell? ⟨(w.heap.size + 1), 2, none⟩ = some (.int .u64 (b 2)) ∧ w'.cell? ⟨(w.heap.size + 1), 3, none⟩ = some (.int .u64 (b 3)) ∧ w'.cell? ⟨(w.heap.size + 1), 4, none⟩ = some (.int .u64 (b 4)) ∧ w'.cell? ⟨(w.heap.size + 1), 5, none⟩ = some (.int .u64 (b 5)) ∧ w'.cell? ⟨(w.heap.size + 1), 6, none⟩ = some (.int .u64 (b 6)) ∧ w'.cell? ⟨(w.heap.size + 1), 7, none⟩ = some (.int .u64 (b 7)) ∧ Below ((w.heap.size + 1) + 1) w4 w' ∧ (w.heap.size + 1) < w'.heap.size))) ∧ Below w4.heap.size w4 w')
    (first | with_reducible assumption | exact ⟨⟨first8 HC4.out, first8 HD4.out⟩, (Below.refl _ _).drew⟩ | exact keepQ (by with_reducible assumption) (by with_reducible assumption) | exact keepQ ((Below.refl _ _).alloc (Nat.le_refl _) _) (by with_reducible assumption))
    (first
     | (have _t := tk5; go_at_call 17; refine (impl_Summarize_eq a sa ma ca HSA.out _ (HT4.out.of (And.right (by with_reducible assumption))) HA.out).mono ?_; rintro e w5 ⟨rfl, hb5⟩; clear _t tk5; have tk6 : True := trivial)
     | (have _t := tk6; go_at_call 17; refine (impl_Summarize_eq b sb mb cb HSB.out _ (HT4.out.of (And.right (by with_reducible assumption))) HB.out).mono ?_; rintro e w6 ⟨rfl, hb6⟩; clear _t tk6; have tk7 : True := trivial)
     | (have _t := tk7; go_at_call 32; refine (impl_Merge_eq (uu a b) 512 9 2 x y z (two sa sb) (two ma mb) (two ca cb) HU.out rfl (by decide) (by decide) (by decide) HPT.out _ _ _ (Nat.le_refl _) (read3_two (heap_alloc_new w6 _))).mono ?_; rintro e w7 ⟨rfl, hb7⟩; clear _t tk7; have tk8 : True := trivial)
     | (have _t := tk8; go_at_call 30; refine (summary_upg w4.heap.size _ (uu a b) 1024 x y z _ (Below.size (And.right (by with_reducible assumption))) (by decide) (HRD.out.below (And.right (by with_reducible assumption))) HU.out).mono ?_; rintro e w8 ⟨rfl, hb8⟩; clear _t tk8; have tk9 : True := trivial))
  rename_i hS
  have hfin : Below w.heap.size w w8 := HB4.out.trans ((below8 hS.1.1).mono (by omega))
  have HF := Lib.hid hfin
  clear hS hb5 hb6 hb7 hb8 hfin
  go_wp2
  go_ret
  exact ⟨rfl, HF.out⟩

set_option maxRecDepth 100000 in
theorem lifted (os : Os) (started : os.Started) (H : Type) (enc : TypeId × Value → H) :
    ReturnsInHanded {} Tryd.checked os 15 .any (fun w args => (Rows.fnMergeChunksSpec.pre enc Tryd.prog Tryd.f15 [] false w args ∧ laidMetH Tryd.prog [("math/bits.deBruijn64tab", Rows.laid_math_bits_deBruijn64tab)] w) ∧ sizedMet enc Tryd.prog Tryd.f15 (OpenSpec.ofChange Rows.fnMergeChunksSpec) false w args)
      (Rows.fnMergeChunksSpec.post enc Tryd.prog Tryd.f15 false true false false) := by
  refine returnsInHanded_of_change_and (C := Tryd.checked) (X := fun w _ => laidMetH Tryd.prog [("math/bits.deBruijn64tab", Rows.laid_math_bits_deBruijn64tab)] w) (fun _ _ _ hh h => h.of_heap hh) own started (by kernel_rfl) Tryd.func15
    (ChangeSpec.witness_shaped (enc := enc) (C := Tryd.checked) (os := os) (X := fun w _ => laidMetH Tryd.prog [("math/bits.deBruijn64tab", Rows.laid_math_bits_deBruijn64tab)] w) false (World.doorLaid Tryd.prog 14 os) #[.agg #[.int .u64 0, .int .u64 0, .int .u64 0, .int .u64 0, .int .u64 0, .int .u64 0, .int .u64 0, .int .u64 0], .agg #[.int .u64 0, .int .u64 0, .int .u64 0, .int .u64 0, .int .u64 0, .int .u64 0, .int .u64 0, .int .u64 0]] 8 rfl (World.shaped_of_RefB (by kernel_rfl) (by kernel_rfl)) (by kernel_rfl) (by kernel_rfl) (by kernel_rfl) (door_met os _)) ?_
  intro W base args ds gs before hval0 hW _ _ hL _
  have hval : ∀ (j : Nat) t v, Tryd.f15.params[j]? = some t → args[j]? = some v → Value.okWide Tryd.prog W .any base t v := hval0
  have hW' := hW
  obtain ⟨p, q, hA0, hV, rfl, hfz, hnd⟩ := hW
  have hA : DataW.TrodAll enc Tryd.prog W 0 (fun _ => true) true Tryd.f15.params.toList args.toList ds p := hA0
  rw [Tryd.params15] at hA hval
  obtain ⟨v0, vs0, d0, ds0, p0, q0, hargs, rfl, rfl, h0, r0⟩ := trodAll_cons hA
  obtain ⟨v1, vs1, d1, ds1, p1, q1, rfl, rfl, rfl, h1, r1⟩ := trodAll_cons r0
  obtain ⟨rfl, rfl, rfl⟩ := trodAll_nil r1
  obtain rfl : args = #[v0, v1] := by cases args; simp_all
  obtain ⟨rfl, rfl⟩ := trodVars_none hV
  have k0 := h0
  have lt0 : ∀ x ∈ p0, x.block < W.heap.size := by obtain ⟨m, hm⟩ := k0; exact DataW.trod_lt m _ _ _ hm
  obtain ⟨a0, w0, rfl⟩ := open_arr8 (hval 0 23 v0 rfl rfl) h0
  have k1 := h1
  have lt1 : ∀ x ∈ p1, x.block < W.heap.size := by obtain ⟨m, hm⟩ := k1; exact DataW.trod_lt m _ _ _ hm
  obtain ⟨a1, w1, rfl⟩ := open_arr8 (hval 1 23 v1 rfl rfl) h1
  clear hA0 hval0
  refine (walk a0 a1 W w0 w1 (tab_of_laid hL)).mono fun e W' ⟨he, bel⟩ => ?_
  subst he
  exact ⟨_, rfl, _, _, _, [], _, [], hW', trodAll_mk1 (shut_bool Tryd.underlying4 _), (trodAll_cons_mk (Below.trod laidOut (by kernel_rfl) (of_decide_eq_true (by kernel_rfl)) k0 bel lt0) (trodAll_cons_mk (Below.trod laidOut (by kernel_rfl) (of_decide_eq_true (by kernel_rfl)) k1 bel lt1) trodAll_mk0)), rfl, bel.frame _, fun h => by cases h⟩

theorem over1 : Tryd.pinned.checked.prog.funcNamed Rows.fnMergeChunksRow.func = some 15 := by kernel_rfl
theorem over2 : joinedFacts Tryd.pinned.checked.prog 15 Tryd.f15 Rows.fnMergeChunksSpec Rows.fnMergeChunksRow = true := by kernel_rfl
theorem over3 : Tryd.f15.isInstance Tryd.pinned.checked.prog Rows.fnMergeChunksRow.origin Rows.fnMergeChunksRow.targs := of_decide_eq_true (by kernel_rfl)
theorem over4 : Tryd.f15.isWrapper Tryd.pinned.checked.prog Rows.fnMergeChunksRow.wrapper Rows.fnMergeChunksRow.mainSum := by unfold Func.isWrapper; first | (rw [if_pos (by decide +kernel)]; kernel_rfl) | (rw [if_neg (by decide +kernel)]; exact ⟨rfl, rfl⟩)
theorem over : Rows.fnMergeChunksRow.holds Tryd.pinned (OpenSpec.ofChange Rows.fnMergeChunksSpec) :=
  OpenClaim.holds_of_wide 15 Tryd.f15 rfl rfl rfl rfl rfl rfl rfl ⟨rfl, rfl, rfl, rfl, rfl⟩ rfl rfl rfl rfl rfl over1 Tryd.func15 over2 over3 over4
    (fun os started H enc _ => lifted os started H enc)

theorem proved : Rows.FnMergeChunksCardSaid :=
  Claim7.holds_tied_plain_at .later [] [.data] true (true, "f2e7d653563900c7ead1574bf6931cc5751bd8d21ddad2109745e814cfc3dc11") false
    over (fun _ h => by cases h) (by kernel_rfl) (fun _ h => by cases h) fnMergeChunks_row_tie rfl ⟨rfl, rfl⟩ (by kernel_rfl) rfl
    (fun f fn hf hfn => by
      obtain rfl : f = 15 := Option.some.inj ((show Tryd.prog.funcNamed "loop.example/pub-pagebitmaps/laws.FnMergeChunks" = some 15 by kernel_rfl).symm.trans hf) |>.symm
      obtain rfl : fn = Tryd.f15 := (Option.some.inj (Tryd.func15.symm.trans hfn)).symm
      exact ⟨by kernel_rfl, fun j t ht => by
        rw [Tryd.params15] at ht
        have hm : t ∈ [23, 23] := by simpa using Array.mem_of_getElem? ht
        have hall : ([23, 23].all fun u => !Tryd.prog.wantsStandIn u) = true := by kernel_rfl
        exact (show Tryd.prog.wantsStandIn t = false by simpa using List.all_eq_true.1 hall t hm)⟩)
    (by kernel_rfl)
#print axioms proved
end Go.Proofs.YtkocngnpkfnblaaDoor.fnMergeChunks
