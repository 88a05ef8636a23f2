/- seats: D.
  FnFindSummary: for every array of eight words and every n that becomes one of 1 to 512: Find finds n pages just if the longest run of the summary has them. No condition but the table that the row lists. (Written by gen_ld.py.)
-/
import Derived.Test.YtkocngnpkfnblaaDoorWD
import Derived.Test.YtkocngnpkfnblaaDoorWJ
import Derived.Test.YtkocngnpkfnblaaDoorWL
import Derived.Test.YtkocngnpkfnblaaDoorMH
import Derived.Test.YtkocngnpkfnblaaDoorWY2
namespace Go.Proofs.YtkocngnpkfnblaaDoor.fnFindSummary
open Go.Proofs.YtkocngnpkfnblaaDoor
open Go.ChangeShapes Go.WideShapes Go.ChangeAt Go.RowKit

set_option maxRecDepth 100000 in
set_option maxHeartbeats 1600000 in
theorem walk (b : Nat → Nat) (n0 : Nat) (w : World) (hb : Words b) (hn0 : n0 < 65536) (hT : Tab w) :
    Calls Tryd.prog 6 #[(.agg #[.int .u64 (b 0), .int .u64 (b 1), .int .u64 (b 2), .int .u64 (b 3), .int .u64 (b 4), .int .u64 (b 5), .int .u64 (b 6), .int .u64 (b 7)]), .int .u16 (n0 : Int)] w (RetTrue w) := by
  have HB := Lib.hid hb
  have HT := Lib.hid hT
  clear hb hT
  obtain ⟨n, hn⟩ : ∃ n : Nat, n = 1 + n0 % 512 := ⟨_, rfl⟩
  have hnr : 1 ≤ n ∧ n ≤ 512 := by omega
  have e1 : (1 : Int) + (n0 : Int) % 512 = (n : Int) := by omega
  clear hn
  have e2 : IntKind.i64.wrap (n : Int) = (n : Int) := IntWalk.i64_in _ ⟨by omega, by omega⟩
  have e3 : IntKind.u64.wrap (n : Int) = (n : Int) := IntWalk.u64_in _ (by omega)
  go_enter Tryd.func6, Tryd.ntmps6
  go_wp2_with fail
  have HC0 : Hid (Cells8 (w.alloc (.cells #[.int .u64 (b 0), .int .u64 (b 1), .int .u64 (b 2), .int .u64 (b 3), .int .u64 (b 4), .int .u64 (b 5), .int .u64 (b 6), .int .u64 (b 7)] 23)) w.heap.size 23 b) := Cells8.new' w _ _ _ rfl
  have HB0 : Hid (Below w.heap.size w (w.alloc (.cells #[.int .u64 (b 0), .int .u64 (b 1), .int .u64 (b 2), .int .u64 (b 3), .int .u64 (b 4), .int .u64 (b 5), .int .u64 (b 6), .int .u64 (b 7)] 23))) := (Below.refl _ _).alloc (Nat.le_refl _) _
  refine (impl_Find b n 0 _ (HT.out.of HB0.out) HB.out hnr (by omega) (by omega)).mono ?_
  rintro e w1 ⟨r, q, hQ, rfl, hb1⟩
  have HB1 := Lib.hid (HB0.out.trans (hb1.mono HB0.out.size))
  have HC1 := Lib.hid (HC0.out.below hb1 HC0.out.lt)
  have HQ := Lib.hid hQ
  clear hQ
  clear hb1
  try clear f0 f1 f2 f3 f4 f5 f6 f7
  obtain ⟨f0, f1, f2, f3, f4, f5, f6, f7⟩ := HC1.out.facts
  go_wp2_with fail
  refine (impl_Summarize b _ (HT.out.of HB1.out) HB.out).mono ?_
  rintro e w2 ⟨s, m, c, hS, rfl, hb2⟩
  have HB2 := Lib.hid (HB1.out.trans (hb2.mono HB1.out.size))
  have HC2 := Lib.hid (HC1.out.below hb2 HC1.out.lt)
  have HM := Lib.hid (HQ.out.most hS.2.1)
  clear hS
  have hfl := sum_field s m c
  clear hb2
  try clear f0 f1 f2 f3 f4 f5 f6 f7
  obtain ⟨f0, f1, f2, f3, f4, f5, f6, f7⟩ := HC2.out.facts
  rcases HM.out with ⟨h1, h2⟩ | ⟨rfl, h2⟩
  · have d1 : decide ((r : Int) < 512) = true := by simp; omega
    have d2 : decide ((n : Int) ≤ (m : Int)) = true := by simp; omega
    go_wp2
    go_ret
    exact ⟨rfl, HB2.out⟩
  · go_wp2
    go_ret
    exact ⟨by simp; omega, HB2.out⟩

set_option maxRecDepth 100000 in
theorem lifted (os : Os) (started : os.Started) (H : Type) (enc : TypeId × Value → H) :
    ReturnsInHanded {} Tryd.checked os 6 .any (fun w args => (Rows.fnFindSummarySpec.pre enc Tryd.prog Tryd.f6 [] false w args ∧ laidMetH Tryd.prog [("math/bits.deBruijn64tab", Rows.laid_math_bits_deBruijn64tab)] w) ∧ sizedMet enc Tryd.prog Tryd.f6 (OpenSpec.ofChange Rows.fnFindSummarySpec) false w args)
      (Rows.fnFindSummarySpec.post enc Tryd.prog Tryd.f6 false true false false) := by
  refine returnsInHanded_of_change_and (C := Tryd.checked) (X := fun w _ => laidMetH Tryd.prog [("math/bits.deBruijn64tab", Rows.laid_math_bits_deBruijn64tab)] w) (fun _ _ _ hh h => h.of_heap hh) own started (by kernel_rfl) Tryd.func6
    (ChangeSpec.witness_shaped (enc := enc) (C := Tryd.checked) (os := os) (X := fun w _ => laidMetH Tryd.prog [("math/bits.deBruijn64tab", Rows.laid_math_bits_deBruijn64tab)] w) false (World.doorLaid Tryd.prog 14 os) #[.agg #[.int .u64 0, .int .u64 0, .int .u64 0, .int .u64 0, .int .u64 0, .int .u64 0, .int .u64 0, .int .u64 0], .int .u16 0] 8 rfl (World.shaped_of_RefB (by kernel_rfl) (by kernel_rfl)) (by kernel_rfl) (by kernel_rfl) (by kernel_rfl) (door_met os _)) ?_
  intro W base args ds gs before hval0 hW _ _ hL _
  have hval : ∀ (j : Nat) t v, Tryd.f6.params[j]? = some t → args[j]? = some v → Value.okWide Tryd.prog W .any base t v := hval0
  have hW' := hW
  obtain ⟨p, q, hA0, hV, rfl, hfz, hnd⟩ := hW
  have hA : DataW.TrodAll enc Tryd.prog W 0 (fun _ => true) true Tryd.f6.params.toList args.toList ds p := hA0
  rw [Tryd.params6] at hA hval
  obtain ⟨v0, vs0, d0, ds0, p0, q0, hargs, rfl, rfl, h0, r0⟩ := trodAll_cons hA
  obtain ⟨v1, vs1, d1, ds1, p1, q1, rfl, rfl, rfl, h1, r1⟩ := trodAll_cons r0
  obtain ⟨rfl, rfl, rfl⟩ := trodAll_nil r1
  obtain rfl : args = #[v0, v1] := by cases args; simp_all
  obtain ⟨rfl, rfl⟩ := trodVars_none hV
  have k0 := h0
  have lt0 : ∀ x ∈ p0, x.block < W.heap.size := by obtain ⟨m, hm⟩ := k0; exact DataW.trod_lt m _ _ _ hm
  obtain ⟨a0, w0, rfl⟩ := open_arr8 (hval 0 23 v0 rfl rfl) h0
  have k1 := h1
  have lt1 : ∀ x ∈ p1, x.block < W.heap.size := by obtain ⟨m, hm⟩ := k1; exact DataW.trod_lt m _ _ _ hm
  obtain ⟨n1, rfl, rfl, rfl, f1⟩ := open_int Tryd.underlying31 (hval 1 31 v1 rfl rfl) h1
  have b1 := bounds_u16 f1
  obtain ⟨a1, rfl⟩ := Int.eq_ofNat_of_zero_le b1.1
  have w1 : a1 < 65536 := by omega
  clear hA0 hval0
  refine (walk a0 a1 W w0 w1 (tab_of_laid hL)).mono fun e W' ⟨he, bel⟩ => ?_
  subst he
  exact ⟨_, rfl, _, _, _, [], _, [], hW', trodAll_mk1 (shut_bool Tryd.underlying4 _), (trodAll_cons_mk (Below.trod laidOut (by kernel_rfl) (of_decide_eq_true (by kernel_rfl)) k0 bel lt0) (trodAll_cons_mk (Below.trod laidOut (by kernel_rfl) (of_decide_eq_true (by kernel_rfl)) k1 bel lt1) trodAll_mk0)), rfl, bel.frame _, fun h => by cases h⟩

theorem over1 : Tryd.pinned.checked.prog.funcNamed Rows.fnFindSummaryRow.func = some 6 := by kernel_rfl
theorem over2 : joinedFacts Tryd.pinned.checked.prog 6 Tryd.f6 Rows.fnFindSummarySpec Rows.fnFindSummaryRow = true := by kernel_rfl
theorem over3 : Tryd.f6.isInstance Tryd.pinned.checked.prog Rows.fnFindSummaryRow.origin Rows.fnFindSummaryRow.targs := of_decide_eq_true (by kernel_rfl)
theorem over4 : Tryd.f6.isWrapper Tryd.pinned.checked.prog Rows.fnFindSummaryRow.wrapper Rows.fnFindSummaryRow.mainSum := by unfold Func.isWrapper; first | (rw [if_pos (by decide +kernel)]; kernel_rfl) | (rw [if_neg (by decide +kernel)]; exact ⟨rfl, rfl⟩)
theorem over : Rows.fnFindSummaryRow.holds Tryd.pinned (OpenSpec.ofChange Rows.fnFindSummarySpec) :=
  OpenClaim.holds_of_wide 6 Tryd.f6 rfl rfl rfl rfl rfl rfl rfl ⟨rfl, rfl, rfl, rfl, rfl⟩ rfl rfl rfl rfl rfl over1 Tryd.func6 over2 over3 over4
    (fun os started H enc _ => lifted os started H enc)

theorem proved : Rows.FnFindSummaryCardSaid :=
  Claim7.holds_tied_plain_at .later [] [.data] true (true, "f2e7d653563900c7ead1574bf6931cc5751bd8d21ddad2109745e814cfc3dc11") false
    over (fun _ h => by cases h) (by kernel_rfl) (fun _ h => by cases h) fnFindSummary_row_tie rfl ⟨rfl, rfl⟩ (by kernel_rfl) rfl
    (fun f fn hf hfn => by
      obtain rfl : f = 6 := Option.some.inj ((show Tryd.prog.funcNamed "loop.example/pub-pagebitmaps/laws.FnFindSummary" = some 6 by kernel_rfl).symm.trans hf) |>.symm
      obtain rfl : fn = Tryd.f6 := (Option.some.inj (Tryd.func6.symm.trans hfn)).symm
      exact ⟨by kernel_rfl, fun j t ht => by
        rw [Tryd.params6] at ht
        have hm : t ∈ [23, 31] := by simpa using Array.mem_of_getElem? ht
        have hall : ([23, 31].all fun u => !Tryd.prog.wantsStandIn u) = true := by kernel_rfl
        exact (show Tryd.prog.wantsStandIn t = false by simpa using List.all_eq_true.1 hall t hm)⟩)
    (by kernel_rfl)
#print axioms proved
end Go.Proofs.YtkocngnpkfnblaaDoor.fnFindSummary
