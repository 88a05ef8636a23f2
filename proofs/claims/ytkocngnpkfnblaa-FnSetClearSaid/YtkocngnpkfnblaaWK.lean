/- seats: P D. What the walks over blocks of eight words share: a block that holds the words b; a call that wrote such a block and nothing else that was there. -/
import Derived.Test.YtkocngnpkfnblaaChecked
import Derived.Test.YtkocngnpkfnblaaMA
import Derived.WalkKit
import Derived.Below
import Derived.BigRegion
import Derived.Outline
import Derived.WalkLawsBesides
import Derived.Laws.Rows
import Derived.Laws.BitsAllLaws
import Derived.Laws.AppendOwn
import Derived.Lib.Hide
namespace Go.Proofs.Ytkocngnpkfnblaa
open Go.RowKit

/-- block g holds the eight words b -/
def Cells8 (w : World) (g : Nat) (t : TypeId) (b : Nat → Nat) : Prop := w.heap[g]? = some (.cells #[.int .u64 (b 0), .int .u64 (b 1), .int .u64 (b 2), .int .u64 (b 3), .int .u64 (b 4), .int .u64 (b 5), .int .u64 (b 6), .int .u64 (b 7)] t (0, 0))

def upd (b : Nat → Nat) (j x : Nat) : Nat → Nat := fun k => if k = j then x else b k

/-- what a method has written through its receiver -/
def Wrote (w : World) (g : Nat) (t : TypeId) (P : (Nat → Nat) → Prop) (e : Ending) (w' : World) : Prop :=
  e = .returned (.tuple #[]) ∧ ∃ b', P b' ∧ Cells8 w' g t b' ∧ w.grownBy w' (some g)

theorem Cells8.cell {w : World} {g : Nat} {t : TypeId} {b : Nat → Nat} (h : Cells8 w g t b) {j : Nat} (hj : j < 8) : w.cell? ⟨g, j, none⟩ = some (.int .u64 (b j)) := by
  rw [cell_of_row _ _ _ _ _ _ h]
  match j, hj with
  | 0, _ | 1, _ | 2, _ | 3, _ | 4, _ | 5, _ | 6, _ | 7, _ => rfl

theorem Cells8.frozen {w : World} {g : Nat} {t : TypeId} {b : Nat → Nat} (h : Cells8 w g t b) (j : Nat) : w.frozen? ⟨g, j, none⟩ = false := frozen_of_row _ _ _ _ _ h

theorem Cells8.lt {w : World} {g : Nat} {t : TypeId} {b : Nat → Nat} (h : Cells8 w g t b) : g < w.heap.size := block_lt_of_cell (h.cell (j := 0) (by decide))

theorem Cells8.facts {w : World} {g : Nat} {t : TypeId} {b : Nat → Nat} (h : Cells8 w g t b) :
    w.cell? ⟨g, 0, none⟩ = some (.int .u64 (b 0)) ∧ w.cell? ⟨g, 1, none⟩ = some (.int .u64 (b 1)) ∧ w.cell? ⟨g, 2, none⟩ = some (.int .u64 (b 2)) ∧ w.cell? ⟨g, 3, none⟩ = some (.int .u64 (b 3)) ∧
    w.cell? ⟨g, 4, none⟩ = some (.int .u64 (b 4)) ∧ w.cell? ⟨g, 5, none⟩ = some (.int .u64 (b 5)) ∧ w.cell? ⟨g, 6, none⟩ = some (.int .u64 (b 6)) ∧ w.cell? ⟨g, 7, none⟩ = some (.int .u64 (b 7)) :=
  ⟨h.cell (by decide), h.cell (by decide), h.cell (by decide), h.cell (by decide), h.cell (by decide), h.cell (by decide), h.cell (by decide), h.cell (by decide)⟩

theorem cells_set (b : Nat → Nat) (j x : Nat) (hj : j < 8) : (#[.int .u64 (b 0), .int .u64 (b 1), .int .u64 (b 2), .int .u64 (b 3), .int .u64 (b 4), .int .u64 (b 5), .int .u64 (b 6), .int .u64 (b 7)] : Array Value).setIfInBounds j (.int .u64 (x : Nat)) = #[.int .u64 (upd b j x 0), .int .u64 (upd b j x 1), .int .u64 (upd b j x 2), .int .u64 (upd b j x 3), .int .u64 (upd b j x 4), .int .u64 (upd b j x 5), .int .u64 (upd b j x 6), .int .u64 (upd b j x 7)] := by
  match j, hj with
  | 0, _ | 1, _ | 2, _ | 3, _ | 4, _ | 5, _ | 6, _ | 7, _ => rfl

theorem Cells8.set {w : World} {g : Nat} {t : TypeId} {b : Nat → Nat} (h : Cells8 w g t b) {j : Nat} (x : Nat) (hj : j < 8) : Cells8 (w.setCell ⟨g, j, none⟩ (.int .u64 (x : Nat))) g t (upd b j x) := by
  unfold Cells8 at *
  rw [← cells_set b j x hj]
  exact heap_setCell_same w g j _ t _ h

theorem Cells8.drew {w : World} {g : Nat} {t : TypeId} {b : Nat → Nat} (h : Cells8 w g t b) : Cells8 w.drew g t b := h
theorem Cells8.new (w : World) (t : TypeId) (b : Nat → Nat) : Cells8 (w.alloc (.cells #[.int .u64 (b 0), .int .u64 (b 1), .int .u64 (b 2), .int .u64 (b 3), .int .u64 (b 4), .int .u64 (b 5), .int .u64 (b 6), .int .u64 (b 7)] t)) w.heap.size t b := heap_alloc_new w _
theorem Cells8.of_block {w w' : World} {g : Nat} {t : TypeId} {b : Nat → Nat} (h : Cells8 w g t b) (he : w'.heap[g]? = w.heap[g]?) : Cells8 w' g t b := he.trans h
theorem Cells8.alloc {w : World} {g : Nat} {t : TypeId} {b : Nat → Nat} (h : Cells8 w g t b) (o : Obj) : Cells8 (w.alloc o) g t b := h.of_block (Below.heap_alloc w o g h.lt)
theorem Cells8.far {w : World} {g : Nat} {t : TypeId} {b : Nat → Nat} (h : Cells8 w g t b) {p : Addr} (hp : g ≠ p.block) (u : Value) : Cells8 (w.setCell p u) g t b := h.of_block (Below.heap_setCell w p u g hp)
theorem Cells8.below {w w' : World} {g : Nat} {t : TypeId} {b : Nat → Nat} {B : Nat} (h : Cells8 w g t b) (hb : Below B w w') (hg : g < B) : Cells8 w' g t b := h.of_block (hb.block g hg)
theorem Cells8.grown {w w' : World} {g : Nat} {t : TypeId} {b : Nat → Nat} {row : Option Nat} (h : Cells8 w g t b) (hb : w.grownBy w' row) (hg : some g ≠ row) : Cells8 w' g t b := h.of_block (hb.block g h.lt hg)

theorem only_drew {a w : World} {row : Option Nat} (h : a.grownBy w row) : a.grownBy w.drew row := ⟨h.os, h.tape, h.output, h.size, h.block⟩
theorem only_setCell {a w : World} {g : Nat} (h : a.grownBy w (some g)) {p : Addr} (hp : p.block = g ∨ a.heap.size ≤ p.block) (u : Value) : a.grownBy (w.setCell p u) (some g) :=
  ⟨h.os, h.tape, h.output, by simpa [World.setCell] using h.size, fun i hi hne => (Below.heap_setCell w p u i (by
    rintro rfl
    rcases hp with hp | hp
    · exact hne (by rw [hp])
    · omega)).trans (h.block i hi hne)⟩
theorem only_refl (a : World) (row : Option Nat) : a.grownBy a row := ⟨rfl, rfl, rfl, Nat.le_refl _, fun _ _ _ => rfl⟩
theorem only_trans {a b c : World} {row : Option Nat} (h : a.grownBy b row) (k : b.grownBy c row) : a.grownBy c row :=
  ⟨k.os.trans h.os, k.tape.trans h.tape, k.output.trans h.output, Nat.le_trans h.size k.size, fun i hi hne => (k.block i (Nat.lt_of_lt_of_le hi h.size) hne).trans (h.block i hi hne)⟩

/-- all eight are words -/
def Words (b : Nat → Nat) : Prop := ∀ j, j < 8 → b j < 18446744073709551616
theorem Words.upd {b : Nat → Nat} (h : Words b) {j x : Nat} (hx : x < 18446744073709551616) : Words (upd b j x) := by
  intro k hk
  unfold Go.Proofs.Ytkocngnpkfnblaa.upd
  split
  · exact hx
  · exact h k hk

theorem bcell {W w1 : World} {B : Nat} (hb : Below B W w1) : (∀ b o, b < B → w1.cell? ⟨b, o, none⟩ = W.cell? ⟨b, o, none⟩) ∧ (∀ b o, b < B → w1.frozen? ⟨b, o, none⟩ = W.frozen? ⟨b, o, none⟩) :=
  ⟨fun b o h => hb.cell (p := ⟨b, o, none⟩) h, fun b o h => hb.frozen (p := ⟨b, o, none⟩) h⟩

end Go.Proofs.Ytkocngnpkfnblaa
