/- seats: P D. Summaries packed into a word and taken apart. -/
import Derived.Test.YtkocngnpkfnblaaWX
namespace Go.Proofs.Ytkocngnpkfnblaa
open Go.RowKit

/-- three numbers that a word can bear: each below 2^21, or all three 2^21 -/
def Sums (s m e : Nat) : Prop := (s < 2097152 ∧ m < 2097152 ∧ e < 2097152) ∨ (s = 2097152 ∧ m = 2097152 ∧ e = 2097152)
/-- the word that bears them -/
def packN (s m e : Nat) : Nat := if m = 2097152 then 9223372036854775808 else s + m * 2097152 + e * 4398046511104

theorem packN_lt {s m e : Nat} (h : Sums s m e) : packN s m e < 18446744073709551616 := by
  unfold packN; rcases h with h | h
  · rw [if_neg (by omega)]; omega
  · rw [if_pos h.2.1]; decide
theorem Sums.le {s m e : Nat} (h : Sums s m e) : s ≤ 2097152 ∧ m ≤ 2097152 ∧ e ≤ 2097152 := by rcases h with h | h <;> omega

theorem low21 {x : Nat} (hx : x < 18446744073709551616) : bits .and .u64 (x : Int) 2097151 = ((x % 2097152 : Nat) : Int) := by
  have h : bits .and .u64 (x : Int) 2097151 = ((x &&& 2097151 : Nat) : Int) := u64_and_nat x 2097151 hx (by decide)
  rw [h, nat_mask21]
theorem or_sum {a b k : Nat} (ha : a < 2 ^ k) (hb : 2 ^ k * b < 18446744073709551616) (hab : 2 ^ k * b + a < 18446744073709551616) : bits .or .u64 (a : Int) ((2 ^ k * b : Nat) : Int) = ((a + 2 ^ k * b : Nat) : Int) := by
  rw [u64_or_nat _ _ (by omega) hb, Nat.or_comm, ← Nat.two_pow_add_eq_or_of_lt ha, Nat.add_comm]
theorem top_bit {x : Nat} (hx : x < 18446744073709551616) : bits .and .u64 (x : Int) 9223372036854775808 = ((x / 9223372036854775808 * 9223372036854775808 : Nat) : Int) := by
  have h : bits .and .u64 (x : Int) 9223372036854775808 = ((x &&& 9223372036854775808 : Nat) : Int) := u64_and_nat x 9223372036854775808 hx (by decide)
  rw [h, nat_hi64_63, Nat.mod_eq_of_lt hx]

theorem pack_num {s m e : Nat} (h : s < 2097152 ∧ m < 2097152 ∧ e < 2097152) :
    bits .or .u64 (bits .or .u64 (bits .and .u64 (s : Int) 2097151) (IntKind.u64.wrap (bits .and .u64 (m : Int) 2097151 * 2097152))) (IntKind.u64.wrap (bits .and .u64 (e : Int) 2097151 * 4398046511104)) = ((packN s m e : Nat) : Int) := by
  obtain ⟨h1, h2, h3⟩ := h
  rw [low21 (by omega), low21 (by omega), low21 (by omega), Nat.mod_eq_of_lt h1, Nat.mod_eq_of_lt h2, Nat.mod_eq_of_lt h3]
  rw [IntWalk.u64_in ((m : Int) * 2097152) (by omega), IntWalk.u64_in ((e : Int) * 4398046511104) (by omega)]
  rw [show ((m : Int) * 2097152) = ((2 ^ 21 * m : Nat) : Int) from by omega, show ((e : Int) * 4398046511104) = ((2 ^ 42 * e : Nat) : Int) from by omega]
  rw [or_sum (by omega) (by omega) (by omega), or_sum (by omega) (by omega) (by omega)]
  unfold packN
  rw [if_neg (by omega)]
  omega

set_option maxRecDepth 100000 in
set_option maxHeartbeats 400000 in
theorem pack_any (s m e : Nat) (w : World) (h : Sums s m e) :
    Calls Try.prog 55 #[.int .u64 (s : Int), .int .u64 (m : Int), .int .u64 (e : Int)] w fun en w' => en = .returned (.int .u64 (packN s m e : Nat)) ∧ w = w' := by
  rcases h with h | h
  · have hm : ((m : Int) == 2097152) = false := by simp; omega
    have HP := Lib.hid (pack_num h)
    obtain ⟨h1, h2, h3⟩ := h
    go_enter Try.func55, Try.ntmps55
    go_wp2
    go_ret
    exact ⟨ret_int HP.out, rfl⟩
  · obtain ⟨rfl, rfl, rfl⟩ := h
    go_enter Try.func55, Try.ntmps55
    go_wp2
    go_ret
    exact ⟨rfl, rfl⟩

/-- what the word's parts are, small case -/
theorem parts_num {s m e : Nat} (h : s < 2097152 ∧ m < 2097152 ∧ e < 2097152) :
    bits .and .u64 ((packN s m e : Nat) : Int) 9223372036854775808 = 0 ∧ bits .and .u64 ((packN s m e : Nat) : Int) 2097151 = (s : Int) ∧
    bits .and .u64 (((packN s m e : Nat) : Int) / 2097152) 2097151 = (m : Int) ∧ bits .and .u64 (((packN s m e : Nat) : Int) / 4398046511104) 2097151 = (e : Int) := by
  have hlt := packN_lt (.inl h)
  have hp : packN s m e = s + m * 2097152 + e * 4398046511104 := by unfold packN; rw [if_neg (by omega)]
  generalize packN s m e = p at *
  rw [top_bit hlt, low21 hlt]
  rw [show ((p : Int) / 2097152) = ((p / 2097152 : Nat) : Int) from rfl, show ((p : Int) / 4398046511104) = ((p / 4398046511104 : Nat) : Int) from rfl, low21 (by omega), low21 (by omega)]
  refine ⟨?_, ?_, ?_, ?_⟩ <;> omega

theorem full_num : bits .and .u64 ((packN 2097152 2097152 2097152 : Nat) : Int) 9223372036854775808 = 9223372036854775808 := by
  rw [top_bit (packN_lt (.inr ⟨rfl, rfl, rfl⟩))]
  rfl

set_option maxRecDepth 100000 in
set_option maxHeartbeats 400000 in
theorem unpack_any (s m e : Nat) (w : World) (h : Sums s m e) :
    Calls Try.prog 65 #[.int .u64 (packN s m e : Nat)] w fun en w' => en = .returned (.tuple #[.int .u64 (s : Int), .int .u64 (m : Int), .int .u64 (e : Int)]) ∧ w = w' := by
  rcases h with h | h
  · obtain ⟨e0, e1, e2, e3⟩ := parts_num h
    generalize packN s m e = p at *
    go_enter Try.func65, Try.ntmps65
    go_wp2
    go_ret3
    exact ⟨rfl, rfl⟩
  · obtain ⟨rfl, rfl, rfl⟩ := h
    have e0 := full_num
    generalize packN 2097152 2097152 2097152 = p at *
    go_enter Try.func65, Try.ntmps65
    go_wp2
    go_ret3
    exact ⟨rfl, rfl⟩

/-- a summary is handed back -/
def RetSum (w : World) (Q : Nat → Nat → Nat → Prop) (e : Ending) (w' : World) : Prop :=
  ∃ s m t : Nat, Q s m t ∧ e = .returned (.agg #[.int .u64 s, .int .u64 m, .int .u64 t]) ∧ Below w.heap.size w w'

set_option maxRecDepth 100000 in
set_option maxHeartbeats 400000 in
theorem unpackSum_any (s m e : Nat) (w : World) (h : Sums s m e) :
    Calls Try.prog 56 #[.int .u64 (packN s m e : Nat)] w fun en w' => en = .returned (.agg #[.int .u64 (s : Int), .int .u64 (m : Int), .int .u64 (e : Int)]) ∧ Below w.heap.size w w' := by
  have HS := Lib.hid h
  clear h
  generalize hp : packN s m e = p
  have HP := Lib.hid hp
  clear hp
  go_enter Try.func56, Try.ntmps56
  go_wp2_with fail
  rw [← HP.out]
  refine (unpack_any s m e _ HS.out).mono ?_
  rintro en w1 ⟨rfl, rfl⟩
  go_wp2
  exact bodyPost_ret (v := .agg #[.int .u64 (s : Int), .int .u64 (m : Int), .int .u64 (e : Int)]) (by simp [results, Try.results56, go_sem]) rfl ⟨rfl, (Below.refl _ _).alloc (Nat.le_refl _) _⟩
/-- block g holds three numbers -/
def Cells3 (w : World) (g : Nat) (t : TypeId) (s m e : Nat) : Prop := w.heap[g]? = some (.cells #[.int .u64 (s : Int), .int .u64 (m : Int), .int .u64 (e : Int)] t (0, 0))
theorem Cells3.facts {w : World} {g : Nat} {t : TypeId} {s m e : Nat} (h : Cells3 w g t s m e) :
    w.cell? ⟨g, 0, none⟩ = some (.int .u64 (s : Int)) ∧ w.cell? ⟨g, 1, none⟩ = some (.int .u64 (m : Int)) ∧ w.cell? ⟨g, 2, none⟩ = some (.int .u64 (e : Int)) ∧
    w.frozen? ⟨g, 0, none⟩ = false ∧ w.frozen? ⟨g, 1, none⟩ = false ∧ w.frozen? ⟨g, 2, none⟩ = false := by
  refine ⟨?_, ?_, ?_, frozen_of_row _ _ _ _ _ h, frozen_of_row _ _ _ _ _ h, frozen_of_row _ _ _ _ _ h⟩ <;> (rw [cell_of_row _ _ _ _ _ _ h]; rfl)
theorem Cells3.lt {w : World} {g : Nat} {t : TypeId} {s m e : Nat} (h : Cells3 w g t s m e) : g < w.heap.size := block_lt_of_cell h.facts.1
theorem Cells3.new' (w : World) (g : Nat) (t : TypeId) (s m e : Nat) (hg : g = w.heap.size) : Cells3 (w.alloc (.cells #[.int .u64 (s : Int), .int .u64 (m : Int), .int .u64 (e : Int)] t)) g t s m e := by subst hg; exact heap_alloc_new w _
theorem Cells3.zero (w : World) (g : Nat) (t : TypeId) (hg : g = w.heap.size) : Cells3 (w.alloc (.cells #[.int .u64 0, .int .u64 0, .int .u64 0] t)) g t 0 0 0 := Cells3.new' w g t 0 0 0 hg
theorem Cells3.of_block {w w' : World} {g : Nat} {t : TypeId} {s m e : Nat} (h : Cells3 w g t s m e) (he : w'.heap[g]? = w.heap[g]?) : Cells3 w' g t s m e := he.trans h
theorem Cells3.alloc {w : World} {g : Nat} {t : TypeId} {s m e : Nat} (h : Cells3 w g t s m e) (o : Obj) : Cells3 (w.alloc o) g t s m e := h.of_block (Below.heap_alloc w o g h.lt)
theorem Cells3.drew {w : World} {g : Nat} {t : TypeId} {s m e : Nat} (h : Cells3 w g t s m e) : Cells3 w.drew g t s m e := h
theorem Cells3.below {w w' : World} {g : Nat} {t : TypeId} {s m e : Nat} {B : Nat} (h : Cells3 w g t s m e) (hb : Below B w w') (hg : g < B) : Cells3 w' g t s m e := h.of_block (hb.block g hg)
theorem Cells3.fill {w : World} {g : Nat} {t : TypeId} {a b c : Nat} (h : Cells3 w g t a b c) (s m e : Nat) :
    Cells3 (((w.setCell ⟨g, 0, none⟩ (.int .u64 (s : Int))).setCell ⟨g, 1, none⟩ (.int .u64 (m : Int))).setCell ⟨g, 2, none⟩ (.int .u64 (e : Int))) g t s m e := by
  have h0 := heap_setCell_same w g 0 _ t (.int .u64 (s : Int)) h
  have h1 := heap_setCell_same _ g 1 _ t (.int .u64 (m : Int)) h0
  exact heap_setCell_same _ g 2 _ t (.int .u64 (e : Int)) h1
theorem below_fill3 {a w : World} {B g : Nat} (h : Below B a w) (hg : B ≤ g) (s m e : Nat) :
    Below B a (((w.setCell ⟨g, 0, none⟩ (.int .u64 (s : Int))).setCell ⟨g, 1, none⟩ (.int .u64 (m : Int))).setCell ⟨g, 2, none⟩ (.int .u64 (e : Int))) :=
  ((h.setCell (by exact hg) _).setCell (by exact hg) _).setCell (by exact hg) _

/-- three numbers are handed back -/
def GiveSum (w : World) (s m e : Nat) (en : Ending) (w' : World) : Prop := en = .returned (.agg #[.int .u64 (s : Int), .int .u64 (m : Int), .int .u64 (e : Int)]) ∧ Below w.heap.size w w'
theorem keep3 {n x y z : Nat} {W0 W w2 : World} (hb : Below W.heap.size W w2) (h : (W.cell? ⟨n, 0, none⟩ = some (.int .u64 (x : Int)) ∧ W.cell? ⟨n, 1, none⟩ = some (.int .u64 (y : Int)) ∧ W.cell? ⟨n, 2, none⟩ = some (.int .u64 (z : Int)) ∧ Below (n + 1) W0 W ∧ n < W.heap.size)) : (w2.cell? ⟨n, 0, none⟩ = some (.int .u64 (x : Int)) ∧ w2.cell? ⟨n, 1, none⟩ = some (.int .u64 (y : Int)) ∧ w2.cell? ⟨n, 2, none⟩ = some (.int .u64 (z : Int)) ∧ Below (n + 1) W0 w2 ∧ n < w2.heap.size) := by
  obtain ⟨f0, f1, f2, hB, hn⟩ := h
  have t : ∀ j v, W.cell? ⟨n, j, none⟩ = some v → w2.cell? ⟨n, j, none⟩ = some v := fun j v h => (hb.cell (p := ⟨n, j, none⟩) hn).trans h
  have := hb.size
  exact ⟨t _ _ f0, t _ _ f1, t _ _ f2, hB.trans (hb.mono (by omega)), by omega⟩
theorem first3 {n x y z : Nat} {W : World} {t : TypeId} (h : Cells3 W n t x y z) : (W.drew.cell? ⟨n, 0, none⟩ = some (.int .u64 (x : Int)) ∧ W.drew.cell? ⟨n, 1, none⟩ = some (.int .u64 (y : Int)) ∧ W.drew.cell? ⟨n, 2, none⟩ = some (.int .u64 (z : Int)) ∧ Below (n + 1) W W.drew ∧ n < W.drew.heap.size) :=
  let ⟨f0, f1, f2, _⟩ := h.facts
  ⟨f0, f1, f2, (Below.refl _ _).drew, h.lt⟩
theorem below3 {n x y z : Nat} {W0 W : World} (h : (W.cell? ⟨n, 0, none⟩ = some (.int .u64 (x : Int)) ∧ W.cell? ⟨n, 1, none⟩ = some (.int .u64 (y : Int)) ∧ W.cell? ⟨n, 2, none⟩ = some (.int .u64 (z : Int)) ∧ Below (n + 1) W0 W ∧ n < W.heap.size)) : Below (n + 1) W0 W := h.2.2.2.1
end Go.Proofs.Ytkocngnpkfnblaa
