/- seats: P D. The frame of a law's proof: an array of eight words that came in is opened. -/
import Derived.Test.YtkocngnpkfnblaaRows
import Derived.Test.YtkocngnpkfnblaaWX
import Derived.ProofKit
import Derived.OpenShut
import Derived.ShutString
import Derived.ChangeOld
namespace Go.Proofs.Ytkocngnpkfnblaa
open Go.ChangeShapes Go.WideShapes Go.ChangeAt Go.RowKit

theorem own : ownKnob Try.prog.godebug = none := by kernel_rfl
theorem laidOut : laidOutB Try.prog = true := by kernel_rfl
theorem cells_arr : Try.prog.cellsOf 23 = 8 := by kernel_rfl

def wordAt (cs : Array Value) (j : Nat) : Nat := match cs[j]? with | some (.int _ x) => x.toNat | _ => 0

theorem open_arr8 {H : Type} {enc : TypeId × Value → H} {w W : World} {r : Reach} {base base' : Nat} {spare : Nat → Bool} {held : Bool} {v : Value} {d : DataW H} {p : List MemPlace}
    (hv : Value.okWide Try.prog W r base 23 v) (h : DataW.Trod enc Try.prog w base' spare held 23 v d p) : ∃ b : Nat → Nat, Words b ∧ v = (.agg #[.int .u64 (b 0), .int .u64 (b 1), .int .u64 (b 2), .int .u64 (b 3), .int .u64 (b 4), .int .u64 (b 5), .int .u64 (b 6), .int .u64 (b 7)]) := by
  obtain ⟨cs, rfl, hsz, _⟩ : ∃ cs, v = .agg cs ∧ cs.size = Try.prog.cellsOf 23 ∧ Row.okWide Try.prog W r base 23 cs := by
    simpa [Value.okWide, Try.underlying23] using hv
  rw [cells_arr] at hsz
  obtain ⟨fuel, hf⟩ := h
  obtain ⟨xs, m, _, _, _, hlen, hel⟩ := DataW.trod_array Try.underlying23 hf
  have hx : ∀ j, j < 8 → ∃ x : Nat, x < 18446744073709551616 ∧ cs[j]? = some (.int .u64 x) := fun j hj => by
    have h1 := hel j hj
    rw [cells_u64, Nat.mul_one, List.getElem?_eq_getElem (by omega)] at h1
    obtain ⟨n, e1, _, wf⟩ := DataW.trod_int Try.underlying22 h1
    have hb := bounds_u64 wf
    have e2 : cs[j]? = some (.int .u64 n) := by
      have : (Value.agg cs).cells.toList[j]? = some (.int .u64 n) := by
        have := congrArg (fun l => l[0]?) e1
        simpa [List.getElem?_take, List.getElem?_drop] using this
      simpa [Value.cells] using this
    refine ⟨n.toNat, by omega, ?_⟩
    rw [e2, Int.toNat_of_nonneg hb.1]
  refine ⟨wordAt cs, fun j hj => ?_, ?_⟩
  · obtain ⟨x, hx1, hx2⟩ := hx j hj
    unfold wordAt
    rw [hx2]
    simpa using hx1
  · congr 1
    apply Array.ext_getElem?
    intro j
    by_cases hj : j < 8
    · obtain ⟨x, hx1, hx2⟩ := hx j hj
      have hw : wordAt cs j = x := by unfold wordAt; rw [hx2]; simp
      rw [hx2, ← hw]
      match j, hj with
      | 0, _ | 1, _ | 2, _ | 3, _ | 4, _ | 5, _ | 6, _ | 7, _ => rfl
    · rw [Array.getElem?_eq_none (by omega), Array.getElem?_eq_none (by simp; omega)]
end Go.Proofs.Ytkocngnpkfnblaa
