/- seats: D. The door: the table math/bits.deBruijn64tab as the row lists it, and what the walks are told of it. -/
import Derived.Test.YtkocngnpkfnblaaDoorRows
import Derived.Test.YtkocngnpkfnblaaDoorCards
import Derived.Test.YtkocngnpkfnblaaDoorTie
import Derived.Test.YtkocngnpkfnblaaDoorWF
import Derived.Test.YtkocngnpkfnblaaDoorWB
import Derived.ProofKit
import Derived.LaidMore
import Derived.OpenShut
import Derived.Stop.Joined
import Derived.SevenTiedAt
namespace Go.Proofs.YtkocngnpkfnblaaDoor
open Go.ChangeShapes Go.WideShapes Go.ChangeAt Go.RowKit

def laidTab : List (String × DataW Unit) := [("math/bits.deBruijn64tab", Rows.laid_math_bits_deBruijn64tab)]

theorem gTab : Tryd.prog.globalNamed "math/bits.deBruijn64tab" = some 0 := by kernel_rfl
theorem tTab : (Tryd.prog.globals[0]?).map (·.type) = some 75 := by kernel_rfl
theorem door_met (os : Os) (args : Array Value) : laidMetH Tryd.prog laidTab ((World.doorLaid Tryd.prog 14 os).forCall (fun _ _ => 0) ⟨#[], args, []⟩).memory :=
  laidMetH_of_parts3 (fuel := 8) (laidMet_of_run' 8 (by kernel_rfl) (by kernel_rfl)) (by kernel_rfl) (by kernel_rfl)

theorem tab_lits : (Rows.laid_math_bits_deBruijn64tab : DataW Unit) = .agg (Lib.deBruijn64tab.map fun (k : Nat) => .lit (.int .u8 (k : Int))) := by kernel_rfl
theorem cells_u8 : Tryd.prog.cellsOf 5 = 1 := by kernel_rfl
theorem cells_tab : Tryd.prog.cellsOf 75 = 64 := by kernel_rfl

theorem tab_of_laid {W : World} (h : laidMetH Tryd.prog laidTab W) : Tab W := by
  rw [MakeChecks.laidMetH_plain _ _ _ (by kernel_rfl)] at h
  obtain ⟨ps, ⟨g0, t0, cs0, f0, p0, q0, hg0, ht0, hv0, hd0, _, _⟩, _, _⟩ := h
  obtain rfl := Option.some.inj (gTab.symm.trans hg0)
  obtain rfl := Option.some.inj (tTab.symm.trans ht0)
  obtain ⟨xs, m1, rfl, hx1, hlen, hn, hel⟩ := DataW.trod_array Tryd.underlying75 hd0
  rw [tab_lits] at hx1
  simp only [Prod.mk.injEq, DataW.agg.injEq] at hx1
  have hc : ∀ j, j < 64 → W.cell? ⟨0, j, none⟩ = some (.int .u8 (Lib.deBruijn64tab.getD j 0 : Nat)) := fun j hj => by
    rw [World.var?_cell hg0 hv0 j]
    have h1 := hel j hj
    rw [cells_u8, Nat.mul_one, List.getElem?_eq_getElem (by omega)] at h1
    obtain ⟨n, e1, e2, _⟩ := DataW.trod_int Tryd.underlying5 h1
    have hj2 : j < Lib.deBruijn64tab.length := hj
    have h2 := congrArg (fun l => l[j]?) hx1.1
    simp only [List.getElem?_map] at h2
    rw [List.getElem?_eq_getElem (l := xs) (by omega), List.getElem?_eq_getElem hj2, e2] at h2
    simp only [Option.map_some, Option.some.injEq, DataW.lit.injEq, Lit.int.injEq, true_and] at h2
    have h3 := congrArg (fun l => l[0]?) e1
    simp only [List.getElem?_take, List.getElem?_drop] at h3
    have h4 : Lib.deBruijn64tab.getD j 0 = Lib.deBruijn64tab[j]'hj2 := by rw [List.getD_eq_getElem?_getD, List.getElem?_eq_getElem hj2]; rfl
    rw [h4, h2]
    simpa using h3
  exact ⟨block_lt_of_cell (hc 0 (by decide)), hc⟩
end Go.Proofs.YtkocngnpkfnblaaDoor
