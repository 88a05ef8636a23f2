/- seats: D.
  FnExactSummarize: for every array of eight words: Summarize tells how many pages are free at the start, in the longest run and at the end. No condition but the table that the row lists. (Written by gen_ld.py.)
-/
import Derived.Test.YtkocngnpkfnblaaDoorWD
import Derived.Test.YtkocngnpkfnblaaDoorWJ
import Derived.Test.YtkocngnpkfnblaaDoorWL
import Derived.Test.YtkocngnpkfnblaaDoorMI
import Derived.Test.YtkocngnpkfnblaaDoorWY2
namespace Go.Proofs.YtkocngnpkfnblaaDoor.fnExactSummarize
open Go.Proofs.YtkocngnpkfnblaaDoor
open Go.ChangeShapes Go.WideShapes Go.ChangeAt Go.RowKit

set_option maxRecDepth 100000 in
set_option maxHeartbeats 1600000 in
theorem walk (b : Nat → Nat) (w : World) (hb : Words b) (hT : Tab w) :
    Calls Tryd.prog 10 #[(.agg #[.int .u64 (b 0), .int .u64 (b 1), .int .u64 (b 2), .int .u64 (b 3), .int .u64 (b 4), .int .u64 (b 5), .int .u64 (b 6), .int .u64 (b 7)])] w (RetTrue w) := by
  have HB := Lib.hid hb
  have HT := Lib.hid hT
  clear hb hT
  obtain ⟨⟨s, m, c⟩, hs⟩ := sum_exists (bt b) 512
  have HS : Hid (IsSum (bt b) 512 s m c) := hs
  clear hs
  go_enter Tryd.func10, Tryd.ntmps10
  go_wp2_with fail
  generalize hW1 : w.alloc _ = W1
  have hc1 : Cells8 W1 w.heap.size 23 b := by rw [← hW1]; exact Cells8.new' w _ _ _ rfl
  have hb1 : Below w.heap.size w W1 := by rw [← hW1]; exact (Below.refl _ _).alloc (Nat.le_refl _) _
  clear hW1
  have HC1 := Lib.hid hc1
  have HB1 := Lib.hid hb1
  have HT1 := Lib.hid (HT.out.of hb1)
  clear hc1 hb1
  go_region_held3 (fun w' => (w'.cell? ⟨w.heap.size, 0, none⟩ = some (.int .u64 (b 0)) ∧ w'.cell? ⟨w.heap.size, 1, none⟩ = some (.int .u64 (b 1)) ∧ w'.cell? ⟨w.heap.size, 2, none⟩ = some (.int .u64 (b 2)) ∧ w'.cell? ⟨w.heap.size, 3, none⟩ = some (.int .u64 (b 3)) ∧ w'.cell? ⟨w.heap.size, 4, none⟩ = some (.int .u64 (b 4)) ∧ w'.cell? ⟨w.heap.size, 5, none⟩ = some (.int .u64 (b 5)) ∧ w'.cell? ⟨w.heap.size, 6, none⟩ = some (.int .u64 (b 6)) ∧ w'.cell? ⟨w.heap.size, 7, none⟩ = some (.int .u64 (b 7)) ∧ Below (w.heap.size + 1) W1 w' ∧ w.heap.size < w'.heap.size))
    (first | assumption | exact first8 HC1.out | exact keep8 (by assumption) (by assumption))
    (first
     | (go_at_call 17; refine (impl_Summarize_eq b s m c HS.out _ (HT1.out.below (below8 (by assumption)) (by omega)) HB.out).mono ?_; rintro e w2 ⟨rfl, hb2⟩)
     | (go_at_call 22; refine (pages_box _ HB.out (by assumption)).mono ?_; rintro e w3 ⟨v, rfl, hl3, hb3⟩)
     | (go_at_call 30; refine (summary_pg _ v b s m c _ (Nat.le_refl _) (hl3.reads (pg_ne b)) HS.out).mono ?_; rintro e w4 ⟨rfl, hb4⟩))
  rename_i hS
  have hfin : Below w.heap.size w w4 := HB1.out.trans ((below8 hS).mono (by omega))
  have HF := Lib.hid hfin
  clear hS hb2 hb3 hb4 hl3 hfin
  go_wp2
  go_ret
  exact ⟨rfl, HF.out⟩

set_option maxRecDepth 100000 in
theorem lifted (os : Os) (started : os.Started) (H : Type) (enc : TypeId × Value → H) :
    ReturnsInHanded {} Tryd.checked os 10 .any (fun w args => (Rows.fnExactSummarizeSpec.pre enc Tryd.prog Tryd.f10 [] false w args ∧ laidMetH Tryd.prog [("math/bits.deBruijn64tab", Rows.laid_math_bits_deBruijn64tab)] w) ∧ sizedMet enc Tryd.prog Tryd.f10 (OpenSpec.ofChange Rows.fnExactSummarizeSpec) false w args)
      (Rows.fnExactSummarizeSpec.post enc Tryd.prog Tryd.f10 false true false false) := by
  refine returnsInHanded_of_change_and (C := Tryd.checked) (X := fun w _ => laidMetH Tryd.prog [("math/bits.deBruijn64tab", Rows.laid_math_bits_deBruijn64tab)] w) (fun _ _ _ hh h => h.of_heap hh) own started (by kernel_rfl) Tryd.func10
    (ChangeSpec.witness_shaped (enc := enc) (C := Tryd.checked) (os := os) (X := fun w _ => laidMetH Tryd.prog [("math/bits.deBruijn64tab", Rows.laid_math_bits_deBruijn64tab)] w) false (World.doorLaid Tryd.prog 14 os) #[.agg #[.int .u64 0, .int .u64 0, .int .u64 0, .int .u64 0, .int .u64 0, .int .u64 0, .int .u64 0, .int .u64 0]] 8 rfl (World.shaped_of_RefB (by kernel_rfl) (by kernel_rfl)) (by kernel_rfl) (by kernel_rfl) (by kernel_rfl) (door_met os _)) ?_
  intro W base args ds gs before hval0 hW _ _ hL _
  have hval : ∀ (j : Nat) t v, Tryd.f10.params[j]? = some t → args[j]? = some v → Value.okWide Tryd.prog W .any base t v := hval0
  have hW' := hW
  obtain ⟨p, q, hA0, hV, rfl, hfz, hnd⟩ := hW
  have hA : DataW.TrodAll enc Tryd.prog W 0 (fun _ => true) true Tryd.f10.params.toList args.toList ds p := hA0
  rw [Tryd.params10] at hA hval
  obtain ⟨v0, vs0, d0, ds0, p0, q0, hargs, rfl, rfl, h0, r0⟩ := trodAll_cons hA
  obtain ⟨rfl, rfl, rfl⟩ := trodAll_nil r0
  obtain rfl : args = #[v0] := by cases args; simp_all
  obtain ⟨rfl, rfl⟩ := trodVars_none hV
  have k0 := h0
  have lt0 : ∀ x ∈ p0, x.block < W.heap.size := by obtain ⟨m, hm⟩ := k0; exact DataW.trod_lt m _ _ _ hm
  obtain ⟨a0, w0, rfl⟩ := open_arr8 (hval 0 23 v0 rfl rfl) h0
  clear hA0 hval0
  refine (walk a0 W w0 (tab_of_laid hL)).mono fun e W' ⟨he, bel⟩ => ?_
  subst he
  exact ⟨_, rfl, _, _, _, [], _, [], hW', trodAll_mk1 (shut_bool Tryd.underlying4 _), (trodAll_cons_mk (Below.trod laidOut (by kernel_rfl) (of_decide_eq_true (by kernel_rfl)) k0 bel lt0) trodAll_mk0), rfl, bel.frame _, fun h => by cases h⟩

theorem over1 : Tryd.pinned.checked.prog.funcNamed Rows.fnExactSummarizeRow.func = some 10 := by kernel_rfl
theorem over2 : joinedFacts Tryd.pinned.checked.prog 10 Tryd.f10 Rows.fnExactSummarizeSpec Rows.fnExactSummarizeRow = true := by kernel_rfl
theorem over3 : Tryd.f10.isInstance Tryd.pinned.checked.prog Rows.fnExactSummarizeRow.origin Rows.fnExactSummarizeRow.targs := of_decide_eq_true (by kernel_rfl)
theorem over4 : Tryd.f10.isWrapper Tryd.pinned.checked.prog Rows.fnExactSummarizeRow.wrapper Rows.fnExactSummarizeRow.mainSum := by unfold Func.isWrapper; first | (rw [if_pos (by decide +kernel)]; kernel_rfl) | (rw [if_neg (by decide +kernel)]; exact ⟨rfl, rfl⟩)
theorem over : Rows.fnExactSummarizeRow.holds Tryd.pinned (OpenSpec.ofChange Rows.fnExactSummarizeSpec) :=
  OpenClaim.holds_of_wide 10 Tryd.f10 rfl rfl rfl rfl rfl rfl rfl ⟨rfl, rfl, rfl, rfl, rfl⟩ rfl rfl rfl rfl rfl over1 Tryd.func10 over2 over3 over4
    (fun os started H enc _ => lifted os started H enc)

theorem proved : Rows.FnExactSummarizeCardSaid :=
  Claim7.holds_tied_plain_at .later [] [.data] true (true, "f2e7d653563900c7ead1574bf6931cc5751bd8d21ddad2109745e814cfc3dc11") false
    over (fun _ h => by cases h) (by kernel_rfl) (fun _ h => by cases h) fnExactSummarize_row_tie rfl ⟨rfl, rfl⟩ (by kernel_rfl) rfl
    (fun f fn hf hfn => by
      obtain rfl : f = 10 := Option.some.inj ((show Tryd.prog.funcNamed "loop.example/pub-pagebitmaps/laws.FnExactSummarize" = some 10 by kernel_rfl).symm.trans hf) |>.symm
      obtain rfl : fn = Tryd.f10 := (Option.some.inj (Tryd.func10.symm.trans hfn)).symm
      exact ⟨by kernel_rfl, fun j t ht => by
        rw [Tryd.params10] at ht
        have hm : t ∈ [23] := by simpa using Array.mem_of_getElem? ht
        have hall : ([23].all fun u => !Tryd.prog.wantsStandIn u) = true := by kernel_rfl
        exact (show Tryd.prog.wantsStandIn t = false by simpa using List.all_eq_true.1 hall t hm)⟩)
    (by kernel_rfl)
#print axioms proved
end Go.Proofs.YtkocngnpkfnblaaDoor.fnExactSummarize
