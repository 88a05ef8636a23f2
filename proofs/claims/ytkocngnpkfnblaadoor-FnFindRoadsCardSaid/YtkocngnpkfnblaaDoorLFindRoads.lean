/- seats: D.
  FnFindRoads: for every array of eight words and every index that From makes of a number: Find1, Find and FindSmall for one page tell the same, and the page is free. No condition but the table that the row lists. (Written by gen_ld.py.)
-/
import Derived.Test.YtkocngnpkfnblaaDoorWD
import Derived.Test.YtkocngnpkfnblaaDoorWJ
import Derived.Test.YtkocngnpkfnblaaDoorWL
import Derived.Test.YtkocngnpkfnblaaDoorMH
namespace Go.Proofs.YtkocngnpkfnblaaDoor.fnFindRoads
open Go.Proofs.YtkocngnpkfnblaaDoor
open Go.ChangeShapes Go.WideShapes Go.ChangeAt Go.RowKit

set_option maxRecDepth 100000 in
set_option maxHeartbeats 1600000 in
theorem walk (b : Nat → Nat) (n1 : Nat) (w : World) (hb : Words b) (hn1 : n1 < 65536) (hT : Tab w) :
    Calls Tryd.prog 14 #[(.agg #[.int .u64 (b 0), .int .u64 (b 1), .int .u64 (b 2), .int .u64 (b 3), .int .u64 (b 4), .int .u64 (b 5), .int .u64 (b 6), .int .u64 (b 7)]), .int .u16 (n1 : Int)] w (RetTrue w) := by
  have HB := Lib.hid hb
  have HT := Lib.hid hT
  clear hb hT
  go_enter Tryd.func14, Tryd.ntmps14
  go_wp2_with fail
  have HC0 : Hid (Cells8 (w.alloc (.cells #[.int .u64 (b 0), .int .u64 (b 1), .int .u64 (b 2), .int .u64 (b 3), .int .u64 (b 4), .int .u64 (b 5), .int .u64 (b 6), .int .u64 (b 7)] 23)) w.heap.size 23 b) := Cells8.new' w _ _ _ rfl
  have HB0 : Hid (Below w.heap.size w (w.alloc (.cells #[.int .u64 (b 0), .int .u64 (b 1), .int .u64 (b 2), .int .u64 (b 3), .int .u64 (b 4), .int .u64 (b 5), .int .u64 (b 6), .int .u64 (b 7)] 23))) := (Below.refl _ _).alloc (Nat.le_refl _) _
  refine (from_any b n1 _ HB.out hn1).mono ?_
  rintro e w1 ⟨s, hs, rfl, hb1⟩
  have HB1 := Lib.hid (HB0.out.trans (hb1.mono HB0.out.size))
  have HC1 := Lib.hid (HC0.out.below hb1 HC0.out.lt)
  have HI := Lib.hid hs
  clear hs
  clear hb1
  try clear f0 f1 f2 f3 f4 f5 f6 f7
  obtain ⟨f0, f1, f2, f3, f4, f5, f6, f7⟩ := HC1.out.facts
  go_wp2_with fail
  refine (impl_Find1 b s _ (HT.out.of HB1.out) HB.out HI.out.1 HI.out.2).mono ?_
  rintro e w2 ⟨one, hQ, rfl, hb2⟩
  have HB2 := Lib.hid (HB1.out.trans (hb2.mono HB1.out.size))
  have HC2 := Lib.hid (HC1.out.below hb2 HC1.out.lt)
  have HO := Lib.hid hQ
  clear hQ
  clear hb2
  try clear f0 f1 f2 f3 f4 f5 f6 f7
  obtain ⟨f0, f1, f2, f3, f4, f5, f6, f7⟩ := HC2.out.facts
  go_wp2_with fail
  refine (impl_Find b 1 s _ (HT.out.of HB2.out) HB.out ⟨by omega, by omega⟩ HI.out.1 HI.out.2).mono ?_
  rintro e w3 ⟨r1, q1, hQ, rfl, hb3⟩
  have HB3 := Lib.hid (HB2.out.trans (hb3.mono HB2.out.size))
  have HC3 := Lib.hid (HC2.out.below hb3 HC2.out.lt)
  have H1 := Lib.hid (HO.out.found.same (by omega) hQ)
  clear hQ
  clear hb3
  try clear f0 f1 f2 f3 f4 f5 f6 f7
  obtain ⟨f0, f1, f2, f3, f4, f5, f6, f7⟩ := HC3.out.facts
  go_wp2_with fail
  refine (impl_FindSmall b 1 s _ (HT.out.of HB3.out) HB.out ⟨by omega, by omega⟩ HI.out.1 HI.out.2).mono ?_
  rintro e w4 ⟨r2, q2, hQ, rfl, hb4⟩
  have HB4 := Lib.hid (HB3.out.trans (hb4.mono HB3.out.size))
  have HC4 := Lib.hid (HC3.out.below hb4 HC3.out.lt)
  have H2 := Lib.hid (HO.out.found.same (by omega) hQ)
  clear hQ
  clear hb4
  try clear f0 f1 f2 f3 f4 f5 f6 f7
  obtain ⟨f0, f1, f2, f3, f4, f5, f6, f7⟩ := HC4.out.facts
  rcases H1.out with ⟨g1, rfl, _⟩ | ⟨g1, g2, g3, g4, g5, _⟩
  · rcases H2.out with ⟨_, rfl, _⟩ | ⟨h1, _⟩
    · subst g1
      go_wp2
      go_ret
      exact ⟨rfl, HB4.out⟩
    · omega
  · rcases H2.out with ⟨h1, _⟩ | ⟨h1, h2, h3, _⟩
    · omega
    · subst g2
      subst g3
      subst h2
      subst h3
      have HF := Lib.hid (g5.free g1)
      clear g5
      have d1 : decide ((512 : Int) ≤ (q2 : Int)) = false := by simp; omega
      have ew : IntKind.i64.wrap (q2 : Int) = (q2 : Int) := IntWalk.i64_in _ ⟨by omega, by omega⟩
      go_wp2_with fail
      refine (pages_any w.heap.size 8 8 b (Nat.le_refl _) _ HC4.out.lt HB.out (fun j hj => HC4.out.cell hj)).mono ?_
      rintro e w8 ⟨v, rfl, hl, hb8⟩
      have HR := Lib.hid (hl.reads (pg_ne b))
      have HB8 := Lib.hid (HB4.out.trans (hb8.mono HB4.out.size))
      clear hl hb8
      go_wp2_with fail
      refine (free_pg _ v b q2 1 _ (by omega) (by omega) HR.out).mono ?_
      rintro e w9 ⟨z, hz, rfl, rfl⟩
      obtain rfl := hz.2 HF.out
      clear hz
      go_wp2
      go_ret
      exact ⟨rfl, HB8.out⟩

set_option maxRecDepth 100000 in
theorem lifted (os : Os) (started : os.Started) (H : Type) (enc : TypeId × Value → H) :
    ReturnsInHanded {} Tryd.checked os 14 .any (fun w args => (Rows.fnFindRoadsSpec.pre enc Tryd.prog Tryd.f14 [] false w args ∧ laidMetH Tryd.prog [("math/bits.deBruijn64tab", Rows.laid_math_bits_deBruijn64tab)] w) ∧ sizedMet enc Tryd.prog Tryd.f14 (OpenSpec.ofChange Rows.fnFindRoadsSpec) false w args)
      (Rows.fnFindRoadsSpec.post enc Tryd.prog Tryd.f14 false true false false) := by
  refine returnsInHanded_of_change_and (C := Tryd.checked) (X := fun w _ => laidMetH Tryd.prog [("math/bits.deBruijn64tab", Rows.laid_math_bits_deBruijn64tab)] w) (fun _ _ _ hh h => h.of_heap hh) own started (by kernel_rfl) Tryd.func14
    (ChangeSpec.witness_shaped (enc := enc) (C := Tryd.checked) (os := os) (X := fun w _ => laidMetH Tryd.prog [("math/bits.deBruijn64tab", Rows.laid_math_bits_deBruijn64tab)] w) false (World.doorLaid Tryd.prog 14 os) #[.agg #[.int .u64 0, .int .u64 0, .int .u64 0, .int .u64 0, .int .u64 0, .int .u64 0, .int .u64 0, .int .u64 0], .int .u16 0] 8 rfl (World.shaped_of_RefB (by kernel_rfl) (by kernel_rfl)) (by kernel_rfl) (by kernel_rfl) (by kernel_rfl) (door_met os _)) ?_
  intro W base args ds gs before hval0 hW _ _ hL _
  have hval : ∀ (j : Nat) t v, Tryd.f14.params[j]? = some t → args[j]? = some v → Value.okWide Tryd.prog W .any base t v := hval0
  have hW' := hW
  obtain ⟨p, q, hA0, hV, rfl, hfz, hnd⟩ := hW
  have hA : DataW.TrodAll enc Tryd.prog W 0 (fun _ => true) true Tryd.f14.params.toList args.toList ds p := hA0
  rw [Tryd.params14] at hA hval
  obtain ⟨v0, vs0, d0, ds0, p0, q0, hargs, rfl, rfl, h0, r0⟩ := trodAll_cons hA
  obtain ⟨v1, vs1, d1, ds1, p1, q1, rfl, rfl, rfl, h1, r1⟩ := trodAll_cons r0
  obtain ⟨rfl, rfl, rfl⟩ := trodAll_nil r1
  obtain rfl : args = #[v0, v1] := by cases args; simp_all
  obtain ⟨rfl, rfl⟩ := trodVars_none hV
  have k0 := h0
  have lt0 : ∀ x ∈ p0, x.block < W.heap.size := by obtain ⟨m, hm⟩ := k0; exact DataW.trod_lt m _ _ _ hm
  obtain ⟨a0, w0, rfl⟩ := open_arr8 (hval 0 23 v0 rfl rfl) h0
  have k1 := h1
  have lt1 : ∀ x ∈ p1, x.block < W.heap.size := by obtain ⟨m, hm⟩ := k1; exact DataW.trod_lt m _ _ _ hm
  obtain ⟨n1, rfl, rfl, rfl, f1⟩ := open_int Tryd.underlying31 (hval 1 31 v1 rfl rfl) h1
  have b1 := bounds_u16 f1
  obtain ⟨a1, rfl⟩ := Int.eq_ofNat_of_zero_le b1.1
  have w1 : a1 < 65536 := by omega
  clear hA0 hval0
  refine (walk a0 a1 W w0 w1 (tab_of_laid hL)).mono fun e W' ⟨he, bel⟩ => ?_
  subst he
  exact ⟨_, rfl, _, _, _, [], _, [], hW', trodAll_mk1 (shut_bool Tryd.underlying4 _), (trodAll_cons_mk (Below.trod laidOut (by kernel_rfl) (of_decide_eq_true (by kernel_rfl)) k0 bel lt0) (trodAll_cons_mk (Below.trod laidOut (by kernel_rfl) (of_decide_eq_true (by kernel_rfl)) k1 bel lt1) trodAll_mk0)), rfl, bel.frame _, fun h => by cases h⟩

theorem over1 : Tryd.pinned.checked.prog.funcNamed Rows.fnFindRoadsRow.func = some 14 := by kernel_rfl
theorem over2 : joinedFacts Tryd.pinned.checked.prog 14 Tryd.f14 Rows.fnFindRoadsSpec Rows.fnFindRoadsRow = true := by kernel_rfl
theorem over3 : Tryd.f14.isInstance Tryd.pinned.checked.prog Rows.fnFindRoadsRow.origin Rows.fnFindRoadsRow.targs := of_decide_eq_true (by kernel_rfl)
theorem over4 : Tryd.f14.isWrapper Tryd.pinned.checked.prog Rows.fnFindRoadsRow.wrapper Rows.fnFindRoadsRow.mainSum := by unfold Func.isWrapper; first | (rw [if_pos (by decide +kernel)]; kernel_rfl) | (rw [if_neg (by decide +kernel)]; exact ⟨rfl, rfl⟩)
theorem over : Rows.fnFindRoadsRow.holds Tryd.pinned (OpenSpec.ofChange Rows.fnFindRoadsSpec) :=
  OpenClaim.holds_of_wide 14 Tryd.f14 rfl rfl rfl rfl rfl rfl rfl ⟨rfl, rfl, rfl, rfl, rfl⟩ rfl rfl rfl rfl rfl over1 Tryd.func14 over2 over3 over4
    (fun os started H enc _ => lifted os started H enc)

theorem proved : Rows.FnFindRoadsCardSaid :=
  Claim7.holds_tied_plain_at .later [] [.data] true (true, "f2e7d653563900c7ead1574bf6931cc5751bd8d21ddad2109745e814cfc3dc11") false
    over (fun _ h => by cases h) (by kernel_rfl) (fun _ h => by cases h) fnFindRoads_row_tie rfl ⟨rfl, rfl⟩ (by kernel_rfl) rfl
    (fun f fn hf hfn => by
      obtain rfl : f = 14 := Option.some.inj ((show Tryd.prog.funcNamed "loop.example/pub-pagebitmaps/laws.FnFindRoads" = some 14 by kernel_rfl).symm.trans hf) |>.symm
      obtain rfl : fn = Tryd.f14 := (Option.some.inj (Tryd.func14.symm.trans hfn)).symm
      exact ⟨by kernel_rfl, fun j t ht => by
        rw [Tryd.params14] at ht
        have hm : t ∈ [23, 31] := by simpa using Array.mem_of_getElem? ht
        have hall : ([23, 31].all fun u => !Tryd.prog.wantsStandIn u) = true := by kernel_rfl
        exact (show Tryd.prog.wantsStandIn t = false by simpa using List.all_eq_true.1 hall t hm)⟩)
    (by kernel_rfl)
#print axioms proved
end Go.Proofs.YtkocngnpkfnblaaDoor.fnFindRoads
