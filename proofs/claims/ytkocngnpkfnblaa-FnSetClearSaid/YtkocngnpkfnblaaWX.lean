/- seats: P D. Two arrays of the same eight words are equal, as the walk asks it. -/
import Derived.Test.YtkocngnpkfnblaaWN
import Derived.Test.YtkocngnpkfnblaaWR
import Derived.Deep.RegionHeld3
import Derived.ChangeKeysEq
namespace Go.Proofs.Ytkocngnpkfnblaa
open Go.RowKit

theorem cells_u64 : Try.prog.cellsOf 22 = 1 := by kernel_rfl
theorem infoU64 : ∃ i, Try.prog.info? 22 = some i := Option.isSome_iff_exists.1 (show (Try.prog.info? 22).isSome = true by kernel_rfl)

theorem eql_same (c : Nat → Nat) (w : World) : (Op.equalIn 10000 23 (.agg #[.int .u64 (c 0), .int .u64 (c 1), .int .u64 (c 2), .int .u64 (c 3), .int .u64 (c 4), .int .u64 (c 5), .int .u64 (c 6), .int .u64 (c 7)]) (.agg #[.int .u64 (c 0), .int .u64 (c 1), .int .u64 (c 2), .int .u64 (c 3), .int .u64 (c 4), .int .u64 (c 5), .int .u64 (c 6), .int .u64 (c 7)])).run Try.prog w = .ok true w := by
  obtain ⟨i, hi⟩ := infoU64
  have e : ∀ (x : Nat), (Op.equalIn 9999 22 (.int .u64 (x : Int)) (.int .u64 (x : Int))).run Try.prog w = .ok true w := fun x => by
    rw [run_equalIn_int w 9998 22 .u64 .u64 _ _ Try.underlying22]
    simp
  have p : ∀ (xs : Array Value) (i : Nat) (v : Value), xs[i]? = some v → (part 22 xs i).run Try.prog w = .ok v w := fun xs i v h => by
    simp [part, isAgg, run_underlying Try.underlying22, h]
  rw [run_equalIn_array w 9999 _ _ Try.underlying23 hi, cells_u64]
  rw [show List.range 8 = [0, 1, 2, 3, 4, 5, 6, 7] from rfl]
  have q0 := p #[.int .u64 (c 0), .int .u64 (c 1), .int .u64 (c 2), .int .u64 (c 3), .int .u64 (c 4), .int .u64 (c 5), .int .u64 (c 6), .int .u64 (c 7)] 0 (.int .u64 (c 0)) rfl
  have q1 := p #[.int .u64 (c 0), .int .u64 (c 1), .int .u64 (c 2), .int .u64 (c 3), .int .u64 (c 4), .int .u64 (c 5), .int .u64 (c 6), .int .u64 (c 7)] 1 (.int .u64 (c 1)) rfl
  have q2 := p #[.int .u64 (c 0), .int .u64 (c 1), .int .u64 (c 2), .int .u64 (c 3), .int .u64 (c 4), .int .u64 (c 5), .int .u64 (c 6), .int .u64 (c 7)] 2 (.int .u64 (c 2)) rfl
  have q3 := p #[.int .u64 (c 0), .int .u64 (c 1), .int .u64 (c 2), .int .u64 (c 3), .int .u64 (c 4), .int .u64 (c 5), .int .u64 (c 6), .int .u64 (c 7)] 3 (.int .u64 (c 3)) rfl
  have q4 := p #[.int .u64 (c 0), .int .u64 (c 1), .int .u64 (c 2), .int .u64 (c 3), .int .u64 (c 4), .int .u64 (c 5), .int .u64 (c 6), .int .u64 (c 7)] 4 (.int .u64 (c 4)) rfl
  have q5 := p #[.int .u64 (c 0), .int .u64 (c 1), .int .u64 (c 2), .int .u64 (c 3), .int .u64 (c 4), .int .u64 (c 5), .int .u64 (c 6), .int .u64 (c 7)] 5 (.int .u64 (c 5)) rfl
  have q6 := p #[.int .u64 (c 0), .int .u64 (c 1), .int .u64 (c 2), .int .u64 (c 3), .int .u64 (c 4), .int .u64 (c 5), .int .u64 (c 6), .int .u64 (c 7)] 6 (.int .u64 (c 6)) rfl
  have q7 := p #[.int .u64 (c 0), .int .u64 (c 1), .int .u64 (c 2), .int .u64 (c 3), .int .u64 (c 4), .int .u64 (c 5), .int .u64 (c 6), .int .u64 (c 7)] 7 (.int .u64 (c 7)) rfl
  clear p
  simp [Op.eqItems, q0, q1, q2, q3, q4, q5, q6, q7, e]
/-- words that the same pages make are the same words -/
theorem setTo_unique {b c d : Nat → Nat} {i n : Nat} (h : SetTo b i n c) (k : SetTo b i n d) : ∀ j, j < 8 → c j = d j :=
  fun j hj => words_ext (n := 8) h.1 k.1 (fun p hp => by rw [h.2 p hp, k.2 p hp]) j hj
theorem clearTo_unique {b c d : Nat → Nat} {i n : Nat} (h : ClearTo b i n c) (k : ClearTo b i n d) : ∀ j, j < 8 → c j = d j :=
  fun j hj => words_ext (n := 8) h.1 k.1 (fun p hp => by rw [h.2 p hp, k.2 p hp]) j hj
theorem arr_eq {w : World} {P : (Nat → Nat) → Prop} {e : Ending} {w' : World} {c : Nat → Nat} (hu : ∀ d, P d → ∀ j, j < 8 → d j = c j) (h : RetArr w P e w') : e = .returned (.agg #[.int .u64 (c 0), .int .u64 (c 1), .int .u64 (c 2), .int .u64 (c 3), .int .u64 (c 4), .int .u64 (c 5), .int .u64 (c 6), .int .u64 (c 7)]) ∧ Below w.heap.size w w' := by
  obtain ⟨d, hd, he, hb⟩ := h
  have h := hu d hd
  rw [h 0 (by decide), h 1 (by decide), h 2 (by decide), h 3 (by decide), h 4 (by decide), h 5 (by decide), h 6 (by decide), h 7 (by decide)] at he
  exact ⟨he, hb⟩
theorem impl_SetRange_eq (b : Nat → Nat) (i n : Nat) (c : Nat → Nat) (h : SetTo b i n c) (w : World) (hb : Words b) (hr : 1 ≤ n ∧ i + n ≤ 512) :
    Calls Try.prog 23 #[(.agg #[.int .u64 (b 0), .int .u64 (b 1), .int .u64 (b 2), .int .u64 (b 3), .int .u64 (b 4), .int .u64 (b 5), .int .u64 (b 6), .int .u64 (b 7)]), .int .u64 (i : Int), .int .u64 (n : Int)] w (fun e w' => e = .returned (.agg #[.int .u64 (c 0), .int .u64 (c 1), .int .u64 (c 2), .int .u64 (c 3), .int .u64 (c 4), .int .u64 (c 5), .int .u64 (c 6), .int .u64 (c 7)]) ∧ Below w.heap.size w w') :=
  (impl_SetRange b i n w hb hr).mono fun _ _ hh => arr_eq (fun _ hd => setTo_unique hd h) hh
theorem impl_ClearRange_eq (b : Nat → Nat) (i n : Nat) (c : Nat → Nat) (h : ClearTo b i n c) (w : World) (hb : Words b) (hr : 1 ≤ n ∧ i + n ≤ 512) :
    Calls Try.prog 20 #[(.agg #[.int .u64 (b 0), .int .u64 (b 1), .int .u64 (b 2), .int .u64 (b 3), .int .u64 (b 4), .int .u64 (b 5), .int .u64 (b 6), .int .u64 (b 7)]), .int .u64 (i : Int), .int .u64 (n : Int)] w (fun e w' => e = .returned (.agg #[.int .u64 (c 0), .int .u64 (c 1), .int .u64 (c 2), .int .u64 (c 3), .int .u64 (c 4), .int .u64 (c 5), .int .u64 (c 6), .int .u64 (c 7)]) ∧ Below w.heap.size w w') :=
  (impl_ClearRange b i n w hb hr).mono fun _ _ hh => arr_eq (fun _ hd => clearTo_unique hd h) hh
theorem impl_AllocRange_eq (b : Nat → Nat) (i n : Nat) (c : Nat → Nat) (h : SetTo b i n c) (w : World) (hb : Words b) (hr : 1 ≤ n ∧ i + n ≤ 512) :
    Calls Try.prog 25 #[(.agg #[.int .u64 (b 0), .int .u64 (b 1), .int .u64 (b 2), .int .u64 (b 3), .int .u64 (b 4), .int .u64 (b 5), .int .u64 (b 6), .int .u64 (b 7)]), .int .u64 (i : Int), .int .u64 (n : Int)] w (fun e w' => e = .returned (.agg #[.int .u64 (c 0), .int .u64 (c 1), .int .u64 (c 2), .int .u64 (c 3), .int .u64 (c 4), .int .u64 (c 5), .int .u64 (c 6), .int .u64 (c 7)]) ∧ Below w.heap.size w w') :=
  (impl_AllocRange b i n w hb hr).mono fun _ _ hh => arr_eq (fun _ hd => setTo_unique hd h) hh
theorem impl_FreeRange_eq (b : Nat → Nat) (i n : Nat) (c : Nat → Nat) (h : ClearTo b i n c) (w : World) (hb : Words b) (hr : 1 ≤ n ∧ i + n ≤ 512) :
    Calls Try.prog 24 #[(.agg #[.int .u64 (b 0), .int .u64 (b 1), .int .u64 (b 2), .int .u64 (b 3), .int .u64 (b 4), .int .u64 (b 5), .int .u64 (b 6), .int .u64 (b 7)]), .int .u64 (i : Int), .int .u64 (n : Int)] w (fun e w' => e = .returned (.agg #[.int .u64 (c 0), .int .u64 (c 1), .int .u64 (c 2), .int .u64 (c 3), .int .u64 (c 4), .int .u64 (c 5), .int .u64 (c 6), .int .u64 (c 7)]) ∧ Below w.heap.size w w') :=
  (impl_FreeRange b i n w hb hr).mono fun _ _ hh => arr_eq (fun _ hd => clearTo_unique hd h) hh

/-- true is handed back; below the heap's old size nothing has turned -/
def RetTrue (w : World) (e : Ending) (w' : World) : Prop := e = .returned (.bool true) ∧ Below w.heap.size w w'

/-- the box of the words b, told anew behind a call -/
theorem keep8 {n : Nat} {b : Nat → Nat} {W0 W w2 : World} (hb : Below W.heap.size W w2) (h : (W.cell? ⟨n, 0, none⟩ = some (.int .u64 (b 0)) ∧ W.cell? ⟨n, 1, none⟩ = some (.int .u64 (b 1)) ∧ W.cell? ⟨n, 2, none⟩ = some (.int .u64 (b 2)) ∧ W.cell? ⟨n, 3, none⟩ = some (.int .u64 (b 3)) ∧ W.cell? ⟨n, 4, none⟩ = some (.int .u64 (b 4)) ∧ W.cell? ⟨n, 5, none⟩ = some (.int .u64 (b 5)) ∧ W.cell? ⟨n, 6, none⟩ = some (.int .u64 (b 6)) ∧ W.cell? ⟨n, 7, none⟩ = some (.int .u64 (b 7)) ∧ Below (n + 1) W0 W ∧ n < W.heap.size)) : (w2.cell? ⟨n, 0, none⟩ = some (.int .u64 (b 0)) ∧ w2.cell? ⟨n, 1, none⟩ = some (.int .u64 (b 1)) ∧ w2.cell? ⟨n, 2, none⟩ = some (.int .u64 (b 2)) ∧ w2.cell? ⟨n, 3, none⟩ = some (.int .u64 (b 3)) ∧ w2.cell? ⟨n, 4, none⟩ = some (.int .u64 (b 4)) ∧ w2.cell? ⟨n, 5, none⟩ = some (.int .u64 (b 5)) ∧ w2.cell? ⟨n, 6, none⟩ = some (.int .u64 (b 6)) ∧ w2.cell? ⟨n, 7, none⟩ = some (.int .u64 (b 7)) ∧ Below (n + 1) W0 w2 ∧ n < w2.heap.size) := by
  obtain ⟨f0, f1, f2, f3, f4, f5, f6, f7, hB, hn⟩ := h
  have t : ∀ j v, W.cell? ⟨n, j, none⟩ = some v → w2.cell? ⟨n, j, none⟩ = some v := fun j v h => (hb.cell (p := ⟨n, j, none⟩) hn).trans h
  have := hb.size
  exact ⟨t _ _ f0, t _ _ f1, t _ _ f2, t _ _ f3, t _ _ f4, t _ _ f5, t _ _ f6, t _ _ f7, hB.trans (hb.mono (by omega)), by omega⟩
/-- .. and at the region's beginning -/
theorem first8 {n : Nat} {b : Nat → Nat} {W : World} {t : TypeId} (h : Cells8 W n t b) : (W.drew.cell? ⟨n, 0, none⟩ = some (.int .u64 (b 0)) ∧ W.drew.cell? ⟨n, 1, none⟩ = some (.int .u64 (b 1)) ∧ W.drew.cell? ⟨n, 2, none⟩ = some (.int .u64 (b 2)) ∧ W.drew.cell? ⟨n, 3, none⟩ = some (.int .u64 (b 3)) ∧ W.drew.cell? ⟨n, 4, none⟩ = some (.int .u64 (b 4)) ∧ W.drew.cell? ⟨n, 5, none⟩ = some (.int .u64 (b 5)) ∧ W.drew.cell? ⟨n, 6, none⟩ = some (.int .u64 (b 6)) ∧ W.drew.cell? ⟨n, 7, none⟩ = some (.int .u64 (b 7)) ∧ Below (n + 1) W W.drew ∧ n < W.drew.heap.size) :=
  let ⟨f0, f1, f2, f3, f4, f5, f6, f7⟩ := h.facts
  ⟨f0, f1, f2, f3, f4, f5, f6, f7, (Below.refl _ _).drew, h.lt⟩
theorem keep8_alloc {n : Nat} {b : Nat → Nat} {W0 W : World} {o : Obj} (h : (W.cell? ⟨n, 0, none⟩ = some (.int .u64 (b 0)) ∧ W.cell? ⟨n, 1, none⟩ = some (.int .u64 (b 1)) ∧ W.cell? ⟨n, 2, none⟩ = some (.int .u64 (b 2)) ∧ W.cell? ⟨n, 3, none⟩ = some (.int .u64 (b 3)) ∧ W.cell? ⟨n, 4, none⟩ = some (.int .u64 (b 4)) ∧ W.cell? ⟨n, 5, none⟩ = some (.int .u64 (b 5)) ∧ W.cell? ⟨n, 6, none⟩ = some (.int .u64 (b 6)) ∧ W.cell? ⟨n, 7, none⟩ = some (.int .u64 (b 7)) ∧ Below (n + 1) W0 W ∧ n < W.heap.size)) : ((W.alloc o).cell? ⟨n, 0, none⟩ = some (.int .u64 (b 0)) ∧ (W.alloc o).cell? ⟨n, 1, none⟩ = some (.int .u64 (b 1)) ∧ (W.alloc o).cell? ⟨n, 2, none⟩ = some (.int .u64 (b 2)) ∧ (W.alloc o).cell? ⟨n, 3, none⟩ = some (.int .u64 (b 3)) ∧ (W.alloc o).cell? ⟨n, 4, none⟩ = some (.int .u64 (b 4)) ∧ (W.alloc o).cell? ⟨n, 5, none⟩ = some (.int .u64 (b 5)) ∧ (W.alloc o).cell? ⟨n, 6, none⟩ = some (.int .u64 (b 6)) ∧ (W.alloc o).cell? ⟨n, 7, none⟩ = some (.int .u64 (b 7)) ∧ Below (n + 1) W0 (W.alloc o) ∧ n < (W.alloc o).heap.size) :=
  keep8 ((Below.refl _ _).alloc (Nat.le_refl _) o) h
theorem keep8_set {n : Nat} {b : Nat → Nat} {W0 W : World} {p : Addr} {v : Value} (hp : n < p.block) (h : (W.cell? ⟨n, 0, none⟩ = some (.int .u64 (b 0)) ∧ W.cell? ⟨n, 1, none⟩ = some (.int .u64 (b 1)) ∧ W.cell? ⟨n, 2, none⟩ = some (.int .u64 (b 2)) ∧ W.cell? ⟨n, 3, none⟩ = some (.int .u64 (b 3)) ∧ W.cell? ⟨n, 4, none⟩ = some (.int .u64 (b 4)) ∧ W.cell? ⟨n, 5, none⟩ = some (.int .u64 (b 5)) ∧ W.cell? ⟨n, 6, none⟩ = some (.int .u64 (b 6)) ∧ W.cell? ⟨n, 7, none⟩ = some (.int .u64 (b 7)) ∧ Below (n + 1) W0 W ∧ n < W.heap.size)) : ((W.setCell p v).cell? ⟨n, 0, none⟩ = some (.int .u64 (b 0)) ∧ (W.setCell p v).cell? ⟨n, 1, none⟩ = some (.int .u64 (b 1)) ∧ (W.setCell p v).cell? ⟨n, 2, none⟩ = some (.int .u64 (b 2)) ∧ (W.setCell p v).cell? ⟨n, 3, none⟩ = some (.int .u64 (b 3)) ∧ (W.setCell p v).cell? ⟨n, 4, none⟩ = some (.int .u64 (b 4)) ∧ (W.setCell p v).cell? ⟨n, 5, none⟩ = some (.int .u64 (b 5)) ∧ (W.setCell p v).cell? ⟨n, 6, none⟩ = some (.int .u64 (b 6)) ∧ (W.setCell p v).cell? ⟨n, 7, none⟩ = some (.int .u64 (b 7)) ∧ Below (n + 1) W0 (W.setCell p v) ∧ n < (W.setCell p v).heap.size) := by
  obtain ⟨f0, f1, f2, f3, f4, f5, f6, f7, hB, hn⟩ := h
  have t : ∀ j u, W.cell? ⟨n, j, none⟩ = some u → (W.setCell p v).cell? ⟨n, j, none⟩ = some u := fun j u h => (World.cell?_setCell_other W p ⟨n, j, none⟩ v (fun e => by rw [e] at hp; exact absurd hp (Nat.lt_irrefl n))).trans h
  exact ⟨t _ _ f0, t _ _ f1, t _ _ f2, t _ _ f3, t _ _ f4, t _ _ f5, t _ _ f6, t _ _ f7, hB.setCell (by omega) v, by simpa [World.setCell] using hn⟩
theorem cell8 {n : Nat} {b : Nat → Nat} {W0 W : World} (h : (W.cell? ⟨n, 0, none⟩ = some (.int .u64 (b 0)) ∧ W.cell? ⟨n, 1, none⟩ = some (.int .u64 (b 1)) ∧ W.cell? ⟨n, 2, none⟩ = some (.int .u64 (b 2)) ∧ W.cell? ⟨n, 3, none⟩ = some (.int .u64 (b 3)) ∧ W.cell? ⟨n, 4, none⟩ = some (.int .u64 (b 4)) ∧ W.cell? ⟨n, 5, none⟩ = some (.int .u64 (b 5)) ∧ W.cell? ⟨n, 6, none⟩ = some (.int .u64 (b 6)) ∧ W.cell? ⟨n, 7, none⟩ = some (.int .u64 (b 7)) ∧ Below (n + 1) W0 W ∧ n < W.heap.size)) (j : Nat) (hj : j < 8) : W.cell? ⟨n, j, none⟩ = some (.int .u64 (b j)) := by
  obtain ⟨f0, f1, f2, f3, f4, f5, f6, f7, _, _⟩ := h
  match j, hj with
  | 0, _ => exact f0
  | 1, _ => exact f1
  | 2, _ => exact f2
  | 3, _ => exact f3
  | 4, _ => exact f4
  | 5, _ => exact f5
  | 6, _ => exact f6
  | 7, _ => exact f7
theorem size8 {n : Nat} {b : Nat → Nat} {W0 W : World} (h : (W.cell? ⟨n, 0, none⟩ = some (.int .u64 (b 0)) ∧ W.cell? ⟨n, 1, none⟩ = some (.int .u64 (b 1)) ∧ W.cell? ⟨n, 2, none⟩ = some (.int .u64 (b 2)) ∧ W.cell? ⟨n, 3, none⟩ = some (.int .u64 (b 3)) ∧ W.cell? ⟨n, 4, none⟩ = some (.int .u64 (b 4)) ∧ W.cell? ⟨n, 5, none⟩ = some (.int .u64 (b 5)) ∧ W.cell? ⟨n, 6, none⟩ = some (.int .u64 (b 6)) ∧ W.cell? ⟨n, 7, none⟩ = some (.int .u64 (b 7)) ∧ Below (n + 1) W0 W ∧ n < W.heap.size)) : n < W.heap.size := h.2.2.2.2.2.2.2.2.2
theorem below8 {n : Nat} {b : Nat → Nat} {W0 W : World} (h : (W.cell? ⟨n, 0, none⟩ = some (.int .u64 (b 0)) ∧ W.cell? ⟨n, 1, none⟩ = some (.int .u64 (b 1)) ∧ W.cell? ⟨n, 2, none⟩ = some (.int .u64 (b 2)) ∧ W.cell? ⟨n, 3, none⟩ = some (.int .u64 (b 3)) ∧ W.cell? ⟨n, 4, none⟩ = some (.int .u64 (b 4)) ∧ W.cell? ⟨n, 5, none⟩ = some (.int .u64 (b 5)) ∧ W.cell? ⟨n, 6, none⟩ = some (.int .u64 (b 6)) ∧ W.cell? ⟨n, 7, none⟩ = some (.int .u64 (b 7)) ∧ Below (n + 1) W0 W ∧ n < W.heap.size)) : Below (n + 1) W0 W := h.2.2.2.2.2.2.2.2.1

/-- the pages of the box -/
theorem pages_box {n : Nat} {b : Nat → Nat} {W0 : World} (W : World) (hb : Words b) (h : (W.cell? ⟨n, 0, none⟩ = some (.int .u64 (b 0)) ∧ W.cell? ⟨n, 1, none⟩ = some (.int .u64 (b 1)) ∧ W.cell? ⟨n, 2, none⟩ = some (.int .u64 (b 2)) ∧ W.cell? ⟨n, 3, none⟩ = some (.int .u64 (b 3)) ∧ W.cell? ⟨n, 4, none⟩ = some (.int .u64 (b 4)) ∧ W.cell? ⟨n, 5, none⟩ = some (.int .u64 (b 5)) ∧ W.cell? ⟨n, 6, none⟩ = some (.int .u64 (b 6)) ∧ W.cell? ⟨n, 7, none⟩ = some (.int .u64 (b 7)) ∧ Below (n + 1) W0 W ∧ n < W.heap.size)) :
    Calls Try.prog 16 #[.slice (some ⟨n, 0, none⟩) 8 8] W (RetLst W (pg b 512)) :=
  pages_any n 8 8 b (Nat.le_refl _) W (size8 h) hb (cell8 h)

theorem pg_ne (b : Nat → Nat) : pg b 512 ≠ [] := fun h => by have := pg_length b 512; rw [h] at this; cases this
end Go.Proofs.Ytkocngnpkfnblaa
