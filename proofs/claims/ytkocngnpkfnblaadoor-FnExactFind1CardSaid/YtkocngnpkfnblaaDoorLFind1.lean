/- seats: D.
  FnExactFind1: for every array of eight words and every index that From makes of a number: Find1 tells the first free page, or 512 or above where there is none. No condition but the table that the row lists.
-/
import Derived.Test.YtkocngnpkfnblaaDoorWD
import Derived.Test.YtkocngnpkfnblaaDoorWJ
import Derived.Test.YtkocngnpkfnblaaDoorWL
import Derived.Test.YtkocngnpkfnblaaDoorMH
namespace Go.Proofs.YtkocngnpkfnblaaDoor.fnExactFind1
open Go.Proofs.YtkocngnpkfnblaaDoor
open Go.ChangeShapes Go.WideShapes Go.ChangeAt Go.RowKit

set_option maxRecDepth 100000 in
set_option maxHeartbeats 800000 in
theorem walk (b : Nat → Nat) (n : Nat) (w : World) (hb : Words b) (hn : n < 65536) (hT : Tab w) :
    Calls Tryd.prog 5 #[(.agg #[.int .u64 (b 0), .int .u64 (b 1), .int .u64 (b 2), .int .u64 (b 3), .int .u64 (b 4), .int .u64 (b 5), .int .u64 (b 6), .int .u64 (b 7)]), .int .u16 (n : Int)] w (RetTrue w) := by
  have HB := Lib.hid hb
  have HT := Lib.hid hT
  clear hb hT
  go_enter Tryd.func5, Tryd.ntmps5
  go_wp2_with fail
  have hc0 : Cells8 (w.alloc (.cells #[.int .u64 (b 0), .int .u64 (b 1), .int .u64 (b 2), .int .u64 (b 3), .int .u64 (b 4), .int .u64 (b 5), .int .u64 (b 6), .int .u64 (b 7)] 23)) w.heap.size 23 b := Cells8.new' w _ _ _ rfl
  refine (pages_any w.heap.size 8 8 b (Nat.le_refl _) _ (by simp) HB.out (fun j hj => hc0.cell hj)).mono ?_
  rintro e w1 ⟨v, rfl, hl, hbel⟩
  have hc1 : Cells8 w1 w.heap.size 23 b := hc0.below hbel (by simp)
  have hb1 : Below w.heap.size w w1 := ((Below.refl _ _).alloc (Nat.le_refl _) _).trans (hbel.mono (by simp))
  have HB1 := Lib.hid hb1
  have HC1 := Lib.hid hc1
  have HT1 := Lib.hid (HT.out.of hb1)
  have HR := Lib.hid (hl.reads (pg_ne b))
  clear hbel hb1 hl hc0 hc1
  go_wp2_with fail
  refine (first_pg _ v b 1 _ ⟨by omega, by omega⟩ HR.out).mono ?_
  rintro e w2 ⟨r0, hr0, rfl, rfl⟩
  have HF := Lib.hid hr0
  have hle := hr0.le
  clear hr0
  go_wp2_with fail
  have tk1 : True := trivial
  go_region_held3 (fun w' => (w'.cell? ⟨w.heap.size, 0, none⟩ = some (.int .u64 (b 0)) ∧ w'.cell? ⟨w.heap.size, 1, none⟩ = some (.int .u64 (b 1)) ∧ w'.cell? ⟨w.heap.size, 2, none⟩ = some (.int .u64 (b 2)) ∧ w'.cell? ⟨w.heap.size, 3, none⟩ = some (.int .u64 (b 3)) ∧ w'.cell? ⟨w.heap.size, 4, none⟩ = some (.int .u64 (b 4)) ∧ w'.cell? ⟨w.heap.size, 5, none⟩ = some (.int .u64 (b 5)) ∧ w'.cell? ⟨w.heap.size, 6, none⟩ = some (.int .u64 (b 6)) ∧ w'.cell? ⟨w.heap.size, 7, none⟩ = some (.int .u64 (b 7)) ∧ Below (w.heap.size + 1) w1 w' ∧ w.heap.size < w'.heap.size))
    (first | assumption | exact first8 HC1.out | exact keep8 (by assumption) (by assumption))
    (first
     | (have _t := tk1; go_at_call 26; refine (from_any b n _ HB.out hn).mono ?_; rintro e w2 ⟨s, hs, rfl, hb2⟩; have HI := Lib.hid hs; clear hs _t tk1; have tk2 : True := trivial)
     | (have _t := tk2; go_at_call 25; refine (impl_Find1 b s _ (HT1.out.below (below8 (by assumption)) (by omega)) HB.out HI.out.1 HI.out.2).mono ?_; rintro e w3 ⟨r, hr, rfl, hb3⟩; have HG := Lib.hid hr; clear hr _t tk2; have tk3 : True := trivial))
  rename_i hS
  have hfin : Below w.heap.size w w3 := HB1.out.trans ((below8 hS).mono (by omega))
  have HE := Lib.hid hfin
  clear hS hb2 hb3 hfin
  rcases HG.out.want HF.out with ⟨rfl, rfl⟩ | ⟨h1, rfl⟩
  · go_wp2
    go_ret
    exact ⟨rfl, HE.out⟩
  · have hd : ((r : Int) == 512) = false := by simp; omega
    have ew : IntKind.i64.wrap (r : Int) = (r : Int) := IntWalk.i64_in _ ⟨by omega, by omega⟩
    go_wp2
    go_ret
    exact ⟨rfl, HE.out⟩

set_option maxRecDepth 100000 in
theorem lifted (os : Os) (started : os.Started) (H : Type) (enc : TypeId × Value → H) :
    ReturnsInHanded {} Tryd.checked os 5 .any (fun w args => (Rows.fnExactFind1Spec.pre enc Tryd.prog Tryd.f5 [] false w args ∧ laidMetH Tryd.prog [("math/bits.deBruijn64tab", Rows.laid_math_bits_deBruijn64tab)] w) ∧ sizedMet enc Tryd.prog Tryd.f5 (OpenSpec.ofChange Rows.fnExactFind1Spec) false w args)
      (Rows.fnExactFind1Spec.post enc Tryd.prog Tryd.f5 false true false false) := by
  refine returnsInHanded_of_change_and (C := Tryd.checked) (X := fun w _ => laidMetH Tryd.prog [("math/bits.deBruijn64tab", Rows.laid_math_bits_deBruijn64tab)] w) (fun _ _ _ hh h => h.of_heap hh) own started (by kernel_rfl) Tryd.func5
    (ChangeSpec.witness_shaped (enc := enc) (C := Tryd.checked) (os := os) (X := fun w _ => laidMetH Tryd.prog [("math/bits.deBruijn64tab", Rows.laid_math_bits_deBruijn64tab)] w) false (World.doorLaid Tryd.prog 14 os) #[.agg #[.int .u64 0, .int .u64 0, .int .u64 0, .int .u64 0, .int .u64 0, .int .u64 0, .int .u64 0, .int .u64 0], .int .u16 0] 8 rfl (World.shaped_of_RefB (by kernel_rfl) (by kernel_rfl)) (by kernel_rfl) (by kernel_rfl) (by kernel_rfl) (door_met os _)) ?_
  intro W base args ds gs before hval0 hW _ _ hL _
  have hval : ∀ (j : Nat) t v, Tryd.f5.params[j]? = some t → args[j]? = some v → Value.okWide Tryd.prog W .any base t v := hval0
  have hW' := hW
  obtain ⟨p, q, hA0, hV, rfl, hfz, hnd⟩ := hW
  have hA : DataW.TrodAll enc Tryd.prog W 0 (fun _ => true) true Tryd.f5.params.toList args.toList ds p := hA0
  rw [Tryd.params5] at hA hval
  obtain ⟨v0, vs0, d0, ds0, p0, q0, hargs, rfl, rfl, h0, r0⟩ := trodAll_cons hA
  obtain ⟨v1, vs1, d1, ds1, p1, q1, rfl, rfl, rfl, h1, r1⟩ := trodAll_cons r0
  obtain ⟨rfl, rfl, rfl⟩ := trodAll_nil r1
  obtain rfl : args = #[v0, v1] := by cases args; simp_all
  obtain ⟨rfl, rfl⟩ := trodVars_none hV
  have k0 := h0
  have lt0 : ∀ x ∈ p0, x.block < W.heap.size := by obtain ⟨m, hm⟩ := k0; exact DataW.trod_lt m _ _ _ hm
  obtain ⟨a0, w0, rfl⟩ := open_arr8 (hval 0 23 v0 rfl rfl) h0
  have k1 := h1
  have lt1 : ∀ x ∈ p1, x.block < W.heap.size := by obtain ⟨m, hm⟩ := k1; exact DataW.trod_lt m _ _ _ hm
  obtain ⟨n1, rfl, rfl, rfl, f1⟩ := open_int Tryd.underlying31 (hval 1 31 v1 rfl rfl) h1
  have b1 := bounds_u16 f1
  obtain ⟨a1, rfl⟩ := Int.eq_ofNat_of_zero_le b1.1
  have w1 : a1 < 65536 := by omega
  clear hA0 hval0
  refine (walk a0 a1 W w0 w1 (tab_of_laid hL)).mono fun e W' ⟨he, bel⟩ => ?_
  subst he
  exact ⟨_, rfl, _, _, _, [], _, [], hW', trodAll_mk1 (shut_bool Tryd.underlying4 _), (trodAll_cons_mk (Below.trod laidOut (by kernel_rfl) (of_decide_eq_true (by kernel_rfl)) k0 bel lt0) (trodAll_cons_mk (Below.trod laidOut (by kernel_rfl) (of_decide_eq_true (by kernel_rfl)) k1 bel lt1) trodAll_mk0)), rfl, bel.frame _, fun h => by cases h⟩

theorem over1 : Tryd.pinned.checked.prog.funcNamed Rows.fnExactFind1Row.func = some 5 := by kernel_rfl
theorem over2 : joinedFacts Tryd.pinned.checked.prog 5 Tryd.f5 Rows.fnExactFind1Spec Rows.fnExactFind1Row = true := by kernel_rfl
theorem over3 : Tryd.f5.isInstance Tryd.pinned.checked.prog Rows.fnExactFind1Row.origin Rows.fnExactFind1Row.targs := of_decide_eq_true (by kernel_rfl)
theorem over4 : Tryd.f5.isWrapper Tryd.pinned.checked.prog Rows.fnExactFind1Row.wrapper Rows.fnExactFind1Row.mainSum := by unfold Func.isWrapper; first | (rw [if_pos (by decide +kernel)]; kernel_rfl) | (rw [if_neg (by decide +kernel)]; exact ⟨rfl, rfl⟩)
theorem over : Rows.fnExactFind1Row.holds Tryd.pinned (OpenSpec.ofChange Rows.fnExactFind1Spec) :=
  OpenClaim.holds_of_wide 5 Tryd.f5 rfl rfl rfl rfl rfl rfl rfl ⟨rfl, rfl, rfl, rfl, rfl⟩ rfl rfl rfl rfl rfl over1 Tryd.func5 over2 over3 over4
    (fun os started H enc _ => lifted os started H enc)

theorem proved : Rows.FnExactFind1CardSaid :=
  Claim7.holds_tied_plain_at .later [] [.data] true (true, "f2e7d653563900c7ead1574bf6931cc5751bd8d21ddad2109745e814cfc3dc11") false
    over (fun _ h => by cases h) (by kernel_rfl) (fun _ h => by cases h) fnExactFind1_row_tie rfl ⟨rfl, rfl⟩ (by kernel_rfl) rfl
    (fun f fn hf hfn => by
      obtain rfl : f = 5 := Option.some.inj ((show Tryd.prog.funcNamed "loop.example/pub-pagebitmaps/laws.FnExactFind1" = some 5 by kernel_rfl).symm.trans hf) |>.symm
      obtain rfl : fn = Tryd.f5 := (Option.some.inj (Tryd.func5.symm.trans hfn)).symm
      exact ⟨by kernel_rfl, fun j t ht => by
        rw [Tryd.params5] at ht
        have hm : t ∈ [23, 31] := by simpa using Array.mem_of_getElem? ht
        have hall : ([23, 31].all fun u => !Tryd.prog.wantsStandIn u) = true := by kernel_rfl
        exact (show Tryd.prog.wantsStandIn t = false by simpa using List.all_eq_true.1 hall t hm)⟩)
    (by kernel_rfl)
#print axioms proved
end Go.Proofs.YtkocngnpkfnblaaDoor.fnExactFind1
