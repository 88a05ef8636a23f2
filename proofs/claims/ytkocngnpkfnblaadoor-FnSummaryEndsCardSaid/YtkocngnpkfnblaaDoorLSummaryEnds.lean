/- seats: D.
  FnSummaryEnds: for every array of eight words: as many pages as the summary tells of the start and of the end are free, and the next one is not, if there is one; no number is above 512, and the longest run is no shorter. (The walk lies in VSummaryEnds.) No condition but the table that the row lists. (Written by gen_ld.py.)
-/
import Derived.Test.YtkocngnpkfnblaaDoorVSummaryEnds
namespace Go.Proofs.YtkocngnpkfnblaaDoor.fnSummaryEnds
open Go.Proofs.YtkocngnpkfnblaaDoor
open Go.ChangeShapes Go.WideShapes Go.ChangeAt Go.RowKit


set_option maxRecDepth 100000 in
theorem lifted (os : Os) (started : os.Started) (H : Type) (enc : TypeId × Value → H) :
    ReturnsInHanded {} Tryd.checked os 3 .any (fun w args => (Rows.fnSummaryEndsSpec.pre enc Tryd.prog Tryd.f3 [] false w args ∧ laidMetH Tryd.prog [("math/bits.deBruijn64tab", Rows.laid_math_bits_deBruijn64tab)] w) ∧ sizedMet enc Tryd.prog Tryd.f3 (OpenSpec.ofChange Rows.fnSummaryEndsSpec) false w args)
      (Rows.fnSummaryEndsSpec.post enc Tryd.prog Tryd.f3 false true false false) := by
  refine returnsInHanded_of_change_and (C := Tryd.checked) (X := fun w _ => laidMetH Tryd.prog [("math/bits.deBruijn64tab", Rows.laid_math_bits_deBruijn64tab)] w) (fun _ _ _ hh h => h.of_heap hh) own started (by kernel_rfl) Tryd.func3
    (ChangeSpec.witness_shaped (enc := enc) (C := Tryd.checked) (os := os) (X := fun w _ => laidMetH Tryd.prog [("math/bits.deBruijn64tab", Rows.laid_math_bits_deBruijn64tab)] w) false (World.doorLaid Tryd.prog 14 os) #[.agg #[.int .u64 0, .int .u64 0, .int .u64 0, .int .u64 0, .int .u64 0, .int .u64 0, .int .u64 0, .int .u64 0]] 8 rfl (World.shaped_of_RefB (by kernel_rfl) (by kernel_rfl)) (by kernel_rfl) (by kernel_rfl) (by kernel_rfl) (door_met os _)) ?_
  intro W base args ds gs before hval0 hW _ _ hL _
  have hval : ∀ (j : Nat) t v, Tryd.f3.params[j]? = some t → args[j]? = some v → Value.okWide Tryd.prog W .any base t v := hval0
  have hW' := hW
  obtain ⟨p, q, hA0, hV, rfl, hfz, hnd⟩ := hW
  have hA : DataW.TrodAll enc Tryd.prog W 0 (fun _ => true) true Tryd.f3.params.toList args.toList ds p := hA0
  rw [Tryd.params3] at hA hval
  obtain ⟨v0, vs0, d0, ds0, p0, q0, hargs, rfl, rfl, h0, r0⟩ := trodAll_cons hA
  obtain ⟨rfl, rfl, rfl⟩ := trodAll_nil r0
  obtain rfl : args = #[v0] := by cases args; simp_all
  obtain ⟨rfl, rfl⟩ := trodVars_none hV
  have k0 := h0
  have lt0 : ∀ x ∈ p0, x.block < W.heap.size := by obtain ⟨m, hm⟩ := k0; exact DataW.trod_lt m _ _ _ hm
  obtain ⟨a0, w0, rfl⟩ := open_arr8 (hval 0 23 v0 rfl rfl) h0
  clear hA0 hval0
  refine (walk a0 W w0 (tab_of_laid hL)).mono fun e W' ⟨he, bel⟩ => ?_
  subst he
  exact ⟨_, rfl, _, _, _, [], _, [], hW', trodAll_mk1 (shut_bool Tryd.underlying4 _), (trodAll_cons_mk (Below.trod laidOut (by kernel_rfl) (of_decide_eq_true (by kernel_rfl)) k0 bel lt0) trodAll_mk0), rfl, bel.frame _, fun h => by cases h⟩

theorem over1 : Tryd.pinned.checked.prog.funcNamed Rows.fnSummaryEndsRow.func = some 3 := by kernel_rfl
theorem over2 : joinedFacts Tryd.pinned.checked.prog 3 Tryd.f3 Rows.fnSummaryEndsSpec Rows.fnSummaryEndsRow = true := by kernel_rfl
theorem over3 : Tryd.f3.isInstance Tryd.pinned.checked.prog Rows.fnSummaryEndsRow.origin Rows.fnSummaryEndsRow.targs := of_decide_eq_true (by kernel_rfl)
theorem over4 : Tryd.f3.isWrapper Tryd.pinned.checked.prog Rows.fnSummaryEndsRow.wrapper Rows.fnSummaryEndsRow.mainSum := by unfold Func.isWrapper; first | (rw [if_pos (by decide +kernel)]; kernel_rfl) | (rw [if_neg (by decide +kernel)]; exact ⟨rfl, rfl⟩)
theorem over : Rows.fnSummaryEndsRow.holds Tryd.pinned (OpenSpec.ofChange Rows.fnSummaryEndsSpec) :=
  OpenClaim.holds_of_wide 3 Tryd.f3 rfl rfl rfl rfl rfl rfl rfl ⟨rfl, rfl, rfl, rfl, rfl⟩ rfl rfl rfl rfl rfl over1 Tryd.func3 over2 over3 over4
    (fun os started H enc _ => lifted os started H enc)

theorem proved : Rows.FnSummaryEndsCardSaid :=
  Claim7.holds_tied_plain_at .later [] [.data] true (true, "f2e7d653563900c7ead1574bf6931cc5751bd8d21ddad2109745e814cfc3dc11") false
    over (fun _ h => by cases h) (by kernel_rfl) (fun _ h => by cases h) fnSummaryEnds_row_tie rfl ⟨rfl, rfl⟩ (by kernel_rfl) rfl
    (fun f fn hf hfn => by
      obtain rfl : f = 3 := Option.some.inj ((show Tryd.prog.funcNamed "loop.example/pub-pagebitmaps/laws.FnSummaryEnds" = some 3 by kernel_rfl).symm.trans hf) |>.symm
      obtain rfl : fn = Tryd.f3 := (Option.some.inj (Tryd.func3.symm.trans hfn)).symm
      exact ⟨by kernel_rfl, fun j t ht => by
        rw [Tryd.params3] at ht
        have hm : t ∈ [23] := by simpa using Array.mem_of_getElem? ht
        have hall : ([23].all fun u => !Tryd.prog.wantsStandIn u) = true := by kernel_rfl
        exact (show Tryd.prog.wantsStandIn t = false by simpa using List.all_eq_true.1 hall t hm)⟩)
    (by kernel_rfl)
#print axioms proved
end Go.Proofs.YtkocngnpkfnblaaDoor.fnSummaryEnds
