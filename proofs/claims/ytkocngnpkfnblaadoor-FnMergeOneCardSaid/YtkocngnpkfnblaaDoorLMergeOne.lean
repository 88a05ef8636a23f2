/- seats: D.
  FnMergeOne: for every array of eight words: the summary of its chunk, merged alone, is itself, and is what Summary tells. No condition but the table that the row lists. (Written by gen_ld.py.)
-/
import Derived.Test.YtkocngnpkfnblaaDoorWD
import Derived.Test.YtkocngnpkfnblaaDoorWJ
import Derived.Test.YtkocngnpkfnblaaDoorWL
import Derived.Test.YtkocngnpkfnblaaDoorMI
import Derived.Test.YtkocngnpkfnblaaDoorWY2
namespace Go.Proofs.YtkocngnpkfnblaaDoor.fnMergeOne
open Go.Proofs.YtkocngnpkfnblaaDoor
open Go.ChangeShapes Go.WideShapes Go.ChangeAt Go.RowKit

/-- the box of the words and that of the summary -/
theorem keepM {n g : Nat} {b : Nat → Nat} {x y z : Nat} {W0 W w2 : World} (hb : Below W.heap.size W w2) (h : ((W.cell? ⟨n, 0, none⟩ = some (.int .u64 (b 0)) ∧ W.cell? ⟨n, 1, none⟩ = some (.int .u64 (b 1)) ∧ W.cell? ⟨n, 2, none⟩ = some (.int .u64 (b 2)) ∧ W.cell? ⟨n, 3, none⟩ = some (.int .u64 (b 3)) ∧ W.cell? ⟨n, 4, none⟩ = some (.int .u64 (b 4)) ∧ W.cell? ⟨n, 5, none⟩ = some (.int .u64 (b 5)) ∧ W.cell? ⟨n, 6, none⟩ = some (.int .u64 (b 6)) ∧ W.cell? ⟨n, 7, none⟩ = some (.int .u64 (b 7)) ∧ Below (n + 1) W0 W ∧ n < W.heap.size)) ∧ ((W.cell? ⟨g, 0, none⟩ = some (.int .u64 (x : Int)) ∧ W.cell? ⟨g, 1, none⟩ = some (.int .u64 (y : Int)) ∧ W.cell? ⟨g, 2, none⟩ = some (.int .u64 (z : Int)) ∧ Below (g + 1) W0 W ∧ g < W.heap.size))) : ((w2.cell? ⟨n, 0, none⟩ = some (.int .u64 (b 0)) ∧ w2.cell? ⟨n, 1, none⟩ = some (.int .u64 (b 1)) ∧ w2.cell? ⟨n, 2, none⟩ = some (.int .u64 (b 2)) ∧ w2.cell? ⟨n, 3, none⟩ = some (.int .u64 (b 3)) ∧ w2.cell? ⟨n, 4, none⟩ = some (.int .u64 (b 4)) ∧ w2.cell? ⟨n, 5, none⟩ = some (.int .u64 (b 5)) ∧ w2.cell? ⟨n, 6, none⟩ = some (.int .u64 (b 6)) ∧ w2.cell? ⟨n, 7, none⟩ = some (.int .u64 (b 7)) ∧ Below (n + 1) W0 w2 ∧ n < w2.heap.size)) ∧ ((w2.cell? ⟨g, 0, none⟩ = some (.int .u64 (x : Int)) ∧ w2.cell? ⟨g, 1, none⟩ = some (.int .u64 (y : Int)) ∧ w2.cell? ⟨g, 2, none⟩ = some (.int .u64 (z : Int)) ∧ Below (g + 1) W0 w2 ∧ g < w2.heap.size)) :=
  ⟨keep8 hb h.1, keep3 hb h.2⟩
theorem keepM_alloc {n g : Nat} {b : Nat → Nat} {x y z : Nat} {W0 W : World} {o : Obj} (h : ((W.cell? ⟨n, 0, none⟩ = some (.int .u64 (b 0)) ∧ W.cell? ⟨n, 1, none⟩ = some (.int .u64 (b 1)) ∧ W.cell? ⟨n, 2, none⟩ = some (.int .u64 (b 2)) ∧ W.cell? ⟨n, 3, none⟩ = some (.int .u64 (b 3)) ∧ W.cell? ⟨n, 4, none⟩ = some (.int .u64 (b 4)) ∧ W.cell? ⟨n, 5, none⟩ = some (.int .u64 (b 5)) ∧ W.cell? ⟨n, 6, none⟩ = some (.int .u64 (b 6)) ∧ W.cell? ⟨n, 7, none⟩ = some (.int .u64 (b 7)) ∧ Below (n + 1) W0 W ∧ n < W.heap.size)) ∧ ((W.cell? ⟨g, 0, none⟩ = some (.int .u64 (x : Int)) ∧ W.cell? ⟨g, 1, none⟩ = some (.int .u64 (y : Int)) ∧ W.cell? ⟨g, 2, none⟩ = some (.int .u64 (z : Int)) ∧ Below (g + 1) W0 W ∧ g < W.heap.size))) : (((W.alloc o).cell? ⟨n, 0, none⟩ = some (.int .u64 (b 0)) ∧ (W.alloc o).cell? ⟨n, 1, none⟩ = some (.int .u64 (b 1)) ∧ (W.alloc o).cell? ⟨n, 2, none⟩ = some (.int .u64 (b 2)) ∧ (W.alloc o).cell? ⟨n, 3, none⟩ = some (.int .u64 (b 3)) ∧ (W.alloc o).cell? ⟨n, 4, none⟩ = some (.int .u64 (b 4)) ∧ (W.alloc o).cell? ⟨n, 5, none⟩ = some (.int .u64 (b 5)) ∧ (W.alloc o).cell? ⟨n, 6, none⟩ = some (.int .u64 (b 6)) ∧ (W.alloc o).cell? ⟨n, 7, none⟩ = some (.int .u64 (b 7)) ∧ Below (n + 1) W0 (W.alloc o) ∧ n < (W.alloc o).heap.size)) ∧ (((W.alloc o).cell? ⟨g, 0, none⟩ = some (.int .u64 (x : Int)) ∧ (W.alloc o).cell? ⟨g, 1, none⟩ = some (.int .u64 (y : Int)) ∧ (W.alloc o).cell? ⟨g, 2, none⟩ = some (.int .u64 (z : Int)) ∧ Below (g + 1) W0 (W.alloc o) ∧ g < (W.alloc o).heap.size)) :=
  keepM ((Below.refl _ _).alloc (Nat.le_refl _) o) h

set_option maxRecDepth 100000 in
set_option maxHeartbeats 1600000 in
theorem walk (b : Nat → Nat) (w : World) (hb : Words b) (hT : Tab w) :
    Calls Tryd.prog 16 #[(.agg #[.int .u64 (b 0), .int .u64 (b 1), .int .u64 (b 2), .int .u64 (b 3), .int .u64 (b 4), .int .u64 (b 5), .int .u64 (b 6), .int .u64 (b 7)])] w (RetTrue w) := by
  have HB := Lib.hid hb
  have HT := Lib.hid hT
  clear hb hT
  obtain ⟨⟨s, m, c⟩, hs⟩ := sum_exists (bt b) 512
  have HS : Hid (IsSum (bt b) 512 s m c) := hs
  clear hs
  have HU : Hid (IsSum (bt b) (1 * 512) s m c) := HS.out
  have HPT : Hid (Parts (bt b) 512 1 (fun _ => s) (fun _ => m) (fun _ => c)) := fun i hi => by
    obtain rfl : i = 0 := by omega
    exact HS.out.congr fun k _ => by rw [Nat.zero_mul, Nat.zero_add]
  go_enter Tryd.func16, Tryd.ntmps16
  go_wp2_with fail
  generalize hW1 : w.alloc _ = W1
  have hc1 : Cells8 W1 w.heap.size 23 b := by rw [← hW1]; exact Cells8.new' w _ _ _ rfl
  have hb1 : Below w.heap.size w W1 := by rw [← hW1]; exact (Below.refl _ _).alloc (Nat.le_refl _) _
  clear hW1
  have HC1 := Lib.hid hc1
  have HB1 := Lib.hid hb1
  have HT1 := Lib.hid (HT.out.of hb1)
  clear hc1 hb1
  refine (impl_Summarize_eq b s m c HS.out _ HT1.out HB.out).mono ?_
  rintro e w2 ⟨rfl, hb2⟩
  have HC2 := Lib.hid (HC1.out.below hb2 HC1.out.lt)
  have HB2 := Lib.hid (HB1.out.trans (hb2.mono HB1.out.size))
  clear hb2
  go_wp2
  generalize hW3 : w2.alloc _ = W3
  have hc3 : Cells8 W3 w.heap.size 23 b := by rw [← hW3]; exact HC2.out.alloc _
  have hd3 : Cells3 W3 w2.heap.size 26 s m c := by rw [← hW3]; exact Cells3.new' _ _ _ _ _ _ rfl
  have hb3 : Below w.heap.size w W3 := by rw [← hW3]; exact HB2.out.alloc HB2.out.size _
  clear hW3
  have HC3 := Lib.hid hc3
  have HD3 := Lib.hid hd3
  have HB3 := Lib.hid hb3
  clear hc3 hd3 hb3
  go_region_held3 (fun w' => ((w'.cell? ⟨w.heap.size, 0, none⟩ = some (.int .u64 (b 0)) ∧ w'.cell? ⟨w.heap.size, 1, none⟩ = some (.int .u64 (b 1)) ∧ w'.cell? ⟨w.heap.size, 2, none⟩ = some (.int .u64 (b 2)) ∧ w'.cell? ⟨w.heap.size, 3, none⟩ = some (.int .u64 (b 3)) ∧ w'.cell? ⟨w.heap.size, 4, none⟩ = some (.int .u64 (b 4)) ∧ w'.cell? ⟨w.heap.size, 5, none⟩ = some (.int .u64 (b 5)) ∧ w'.cell? ⟨w.heap.size, 6, none⟩ = some (.int .u64 (b 6)) ∧ w'.cell? ⟨w.heap.size, 7, none⟩ = some (.int .u64 (b 7)) ∧ Below (w.heap.size + 1) W3 w' ∧ w.heap.size < w'.heap.size)) ∧ ((w'.cell? ⟨w2.heap.size, 0, none⟩ = some (.int .u64 (s : Int)) ∧ w'.cell? ⟨w2.heap.size, 1, none⟩ = some (.int .u64 (m : Int)) ∧ w'.cell? ⟨w2.heap.size, 2, none⟩ = some (.int .u64 (c : Int)) ∧ Below (w2.heap.size + 1) W3 w' ∧ w2.heap.size < w'.heap.size)))
    (first | assumption | exact ⟨first8 HC3.out, first3 HD3.out⟩ | exact keepM (by assumption) (by assumption) | exact keepM_alloc (by assumption))
    (first
     | (go_at_call 32; refine (impl_Merge_eq (bt b) 512 9 1 s m c (fun _ => s) (fun _ => m) (fun _ => c) HU.out rfl (by decide) (by decide) (by decide) HPT.out _ _ _ (Nat.le_refl _) (read3_one (Cells3.new' _ _ _ _ _ _ rfl).drew)).mono ?_; rintro e w4 ⟨rfl, hb4⟩)
     | (go_at_call 22; refine (pages_box _ HB.out (And.left (by assumption))).mono ?_; rintro e w5 ⟨v, rfl, hl5, hb5⟩)
     | (go_at_call 30; refine (summary_pg _ v b s m c _ (Nat.le_refl _) (hl5.reads (pg_ne b)) HS.out).mono ?_; rintro e w6 ⟨rfl, hb6⟩))
  rename_i hS
  have hfin : Below w.heap.size w w6 := HB3.out.trans ((below8 hS.1).mono (by omega))
  have HF := Lib.hid hfin
  clear hS hb4 hb5 hb6 hl5 hfin
  go_wp2
  go_ret
  exact ⟨rfl, HF.out⟩

set_option maxRecDepth 100000 in
theorem lifted (os : Os) (started : os.Started) (H : Type) (enc : TypeId × Value → H) :
    ReturnsInHanded {} Tryd.checked os 16 .any (fun w args => (Rows.fnMergeOneSpec.pre enc Tryd.prog Tryd.f16 [] false w args ∧ laidMetH Tryd.prog [("math/bits.deBruijn64tab", Rows.laid_math_bits_deBruijn64tab)] w) ∧ sizedMet enc Tryd.prog Tryd.f16 (OpenSpec.ofChange Rows.fnMergeOneSpec) false w args)
      (Rows.fnMergeOneSpec.post enc Tryd.prog Tryd.f16 false true false false) := by
  refine returnsInHanded_of_change_and (C := Tryd.checked) (X := fun w _ => laidMetH Tryd.prog [("math/bits.deBruijn64tab", Rows.laid_math_bits_deBruijn64tab)] w) (fun _ _ _ hh h => h.of_heap hh) own started (by kernel_rfl) Tryd.func16
    (ChangeSpec.witness_shaped (enc := enc) (C := Tryd.checked) (os := os) (X := fun w _ => laidMetH Tryd.prog [("math/bits.deBruijn64tab", Rows.laid_math_bits_deBruijn64tab)] w) false (World.doorLaid Tryd.prog 14 os) #[.agg #[.int .u64 0, .int .u64 0, .int .u64 0, .int .u64 0, .int .u64 0, .int .u64 0, .int .u64 0, .int .u64 0]] 8 rfl (World.shaped_of_RefB (by kernel_rfl) (by kernel_rfl)) (by kernel_rfl) (by kernel_rfl) (by kernel_rfl) (door_met os _)) ?_
  intro W base args ds gs before hval0 hW _ _ hL _
  have hval : ∀ (j : Nat) t v, Tryd.f16.params[j]? = some t → args[j]? = some v → Value.okWide Tryd.prog W .any base t v := hval0
  have hW' := hW
  obtain ⟨p, q, hA0, hV, rfl, hfz, hnd⟩ := hW
  have hA : DataW.TrodAll enc Tryd.prog W 0 (fun _ => true) true Tryd.f16.params.toList args.toList ds p := hA0
  rw [Tryd.params16] at hA hval
  obtain ⟨v0, vs0, d0, ds0, p0, q0, hargs, rfl, rfl, h0, r0⟩ := trodAll_cons hA
  obtain ⟨rfl, rfl, rfl⟩ := trodAll_nil r0
  obtain rfl : args = #[v0] := by cases args; simp_all
  obtain ⟨rfl, rfl⟩ := trodVars_none hV
  have k0 := h0
  have lt0 : ∀ x ∈ p0, x.block < W.heap.size := by obtain ⟨m, hm⟩ := k0; exact DataW.trod_lt m _ _ _ hm
  obtain ⟨a0, w0, rfl⟩ := open_arr8 (hval 0 23 v0 rfl rfl) h0
  clear hA0 hval0
  refine (walk a0 W w0 (tab_of_laid hL)).mono fun e W' ⟨he, bel⟩ => ?_
  subst he
  exact ⟨_, rfl, _, _, _, [], _, [], hW', trodAll_mk1 (shut_bool Tryd.underlying4 _), (trodAll_cons_mk (Below.trod laidOut (by kernel_rfl) (of_decide_eq_true (by kernel_rfl)) k0 bel lt0) trodAll_mk0), rfl, bel.frame _, fun h => by cases h⟩

theorem over1 : Tryd.pinned.checked.prog.funcNamed Rows.fnMergeOneRow.func = some 16 := by kernel_rfl
theorem over2 : joinedFacts Tryd.pinned.checked.prog 16 Tryd.f16 Rows.fnMergeOneSpec Rows.fnMergeOneRow = true := by kernel_rfl
theorem over3 : Tryd.f16.isInstance Tryd.pinned.checked.prog Rows.fnMergeOneRow.origin Rows.fnMergeOneRow.targs := of_decide_eq_true (by kernel_rfl)
theorem over4 : Tryd.f16.isWrapper Tryd.pinned.checked.prog Rows.fnMergeOneRow.wrapper Rows.fnMergeOneRow.mainSum := by unfold Func.isWrapper; first | (rw [if_pos (by decide +kernel)]; kernel_rfl) | (rw [if_neg (by decide +kernel)]; exact ⟨rfl, rfl⟩)
theorem over : Rows.fnMergeOneRow.holds Tryd.pinned (OpenSpec.ofChange Rows.fnMergeOneSpec) :=
  OpenClaim.holds_of_wide 16 Tryd.f16 rfl rfl rfl rfl rfl rfl rfl ⟨rfl, rfl, rfl, rfl, rfl⟩ rfl rfl rfl rfl rfl over1 Tryd.func16 over2 over3 over4
    (fun os started H enc _ => lifted os started H enc)

theorem proved : Rows.FnMergeOneCardSaid :=
  Claim7.holds_tied_plain_at .later [] [.data] true (true, "f2e7d653563900c7ead1574bf6931cc5751bd8d21ddad2109745e814cfc3dc11") false
    over (fun _ h => by cases h) (by kernel_rfl) (fun _ h => by cases h) fnMergeOne_row_tie rfl ⟨rfl, rfl⟩ (by kernel_rfl) rfl
    (fun f fn hf hfn => by
      obtain rfl : f = 16 := Option.some.inj ((show Tryd.prog.funcNamed "loop.example/pub-pagebitmaps/laws.FnMergeOne" = some 16 by kernel_rfl).symm.trans hf) |>.symm
      obtain rfl : fn = Tryd.f16 := (Option.some.inj (Tryd.func16.symm.trans hfn)).symm
      exact ⟨by kernel_rfl, fun j t ht => by
        rw [Tryd.params16] at ht
        have hm : t ∈ [23] := by simpa using Array.mem_of_getElem? ht
        have hall : ([23].all fun u => !Tryd.prog.wantsStandIn u) = true := by kernel_rfl
        exact (show Tryd.prog.wantsStandIn t = false by simpa using List.all_eq_true.1 hall t hm)⟩)
    (by kernel_rfl)
#print axioms proved
end Go.Proofs.YtkocngnpkfnblaaDoor.fnMergeOne
