/- seats: D.
  FnExactFindLarge: for every array of eight words, every number n that becomes one of 65 to 512, and every index that From makes of a number: FindLarge tells the first run of n free pages and the first free page, or 512 or above where there is none. No condition but the table that the row lists. (Written by gen_lfind.py.)
-/
import Derived.Test.YtkocngnpkfnblaaDoorWD
import Derived.Test.YtkocngnpkfnblaaDoorWJ
import Derived.Test.YtkocngnpkfnblaaDoorWL
import Derived.Test.YtkocngnpkfnblaaDoorMH
namespace Go.Proofs.YtkocngnpkfnblaaDoor.fnExactFindLarge
open Go.Proofs.YtkocngnpkfnblaaDoor
open Go.ChangeShapes Go.WideShapes Go.ChangeAt Go.RowKit

set_option maxRecDepth 100000 in
set_option maxHeartbeats 800000 in
theorem walk (b : Nat → Nat) (n0 n1 : Nat) (w : World) (hb : Words b) (hn0 : n0 < 65536) (hn1 : n1 < 65536) (hT : Tab w) :
    Calls Tryd.prog 8 #[(.agg #[.int .u64 (b 0), .int .u64 (b 1), .int .u64 (b 2), .int .u64 (b 3), .int .u64 (b 4), .int .u64 (b 5), .int .u64 (b 6), .int .u64 (b 7)]), .int .u16 (n0 : Int), .int .u16 (n1 : Int)] w (RetTrue w) := by
  have HB := Lib.hid hb
  have HT := Lib.hid hT
  clear hb hT
  obtain ⟨n, hn⟩ : ∃ n : Nat, n = 65 + n0 % 448 := ⟨_, rfl⟩
  have hnr : 65 ≤ n ∧ n ≤ 512 := by omega
  have e1 : (65 : Int) + (n0 : Int) % 448 = (n : Int) := by omega
  clear hn
  have e2 : IntKind.i64.wrap (n : Int) = (n : Int) := IntWalk.i64_in _ ⟨by omega, by omega⟩
  have e3 : IntKind.u64.wrap (n : Int) = (n : Int) := IntWalk.u64_in _ (by omega)
  go_enter Tryd.func8, Tryd.ntmps8
  go_wp2_with fail
  have hc0 : Cells8 (w.alloc (.cells #[.int .u64 (b 0), .int .u64 (b 1), .int .u64 (b 2), .int .u64 (b 3), .int .u64 (b 4), .int .u64 (b 5), .int .u64 (b 6), .int .u64 (b 7)] 23)) w.heap.size 23 b := Cells8.new' w _ _ _ rfl
  refine (pages_any w.heap.size 8 8 b (Nat.le_refl _) _ (by simp) HB.out (fun j hj => hc0.cell hj)).mono ?_
  rintro e w1 ⟨v, rfl, hl, hbel⟩
  have hc1 : Cells8 w1 w.heap.size 23 b := hc0.below hbel (by simp)
  have hb1 : Below w.heap.size w w1 := ((Below.refl _ _).alloc (Nat.le_refl _) _).trans (hbel.mono (by simp))
  obtain ⟨f0, f1, f2, f3, f4, f5, f6, f7⟩ := hc1.facts
  have HB1 := Lib.hid hb1
  have HC1 := Lib.hid hc1
  have HR := Lib.hid (hl.reads (pg_ne b))
  clear hbel hb1 hl hc0 hc1
  go_wp2_with fail
  refine (from_any b n1 _ HB.out hn1).mono ?_
  rintro e w2 ⟨s, hs, rfl, hb2⟩
  have HI := Lib.hid hs
  have HB2 := Lib.hid (HB1.out.trans (hb2.mono HB1.out.size))
  have hc2 := HC1.out.below hb2 (HC1.out.lt)
  have HSZ := Lib.hid hb2.size
  have HR2 := Lib.hid (HR.out.below hb2)
  obtain ⟨g0, g1, g2, g3, g4, g5, g6, g7⟩ := hc2.facts
  have HC2 := Lib.hid hc2
  clear hs hb2 f0 f1 f2 f3 f4 f5 f6 f7 hc2
  go_wp2_with fail
  refine (first_pg _ v b n _ ⟨by omega, by omega⟩ HR2.out).mono ?_
  rintro e w3 ⟨r0, hr0, rfl, rfl⟩
  have HF := Lib.hid hr0
  have hle := hr0.le
  clear hr0
  go_wp2_with fail
  refine (impl_FindLarge b n s _ (HT.out.of HB2.out) HB.out hnr HI.out.1 HI.out.2).mono ?_
  rintro e w4 ⟨r, q, hQ, rfl, hb4⟩
  have HQ := Lib.hid hQ
  have HB4 := Lib.hid (HB2.out.trans (hb4.mono HB2.out.size))
  have HR4 := Lib.hid (HR2.out.mono (B' := w2.heap.size) HSZ.out |>.below hb4)
  clear hQ hb4 g0 g1 g2 g3 g4 g5 g6 g7
  rcases HQ.out.want (by omega) HF.out with ⟨rfl, rfl⟩ | ⟨h1, rfl, h2, h3⟩
  · go_wp2
    go_ret
    exact ⟨rfl, HB4.out⟩
  · have hd : ((r : Int) == 512) = false := by simp; omega
    have ew : IntKind.i64.wrap (r : Int) = (r : Int) := IntWalk.i64_in _ ⟨by omega, by omega⟩
    have ew2 : IntKind.i64.wrap (q : Int) = (q : Int) := IntWalk.i64_in _ ⟨by omega, by omega⟩
    have HS := Lib.hid h3
    clear h3
    go_wp2_with fail
    refine (first_pg _ v b 1 _ ⟨by omega, by omega⟩ HR4.out).mono ?_
    rintro e w5 ⟨p, hp, rfl, rfl⟩
    rcases HS.out.want hp with ⟨_, rfl⟩ | ⟨_, rfl⟩
    · omega
    · clear hp
      go_wp2
      go_ret
      exact ⟨rfl, HB4.out⟩

set_option maxRecDepth 100000 in
theorem lifted (os : Os) (started : os.Started) (H : Type) (enc : TypeId × Value → H) :
    ReturnsInHanded {} Tryd.checked os 8 .any (fun w args => (Rows.fnExactFindLargeSpec.pre enc Tryd.prog Tryd.f8 [] false w args ∧ laidMetH Tryd.prog [("math/bits.deBruijn64tab", Rows.laid_math_bits_deBruijn64tab)] w) ∧ sizedMet enc Tryd.prog Tryd.f8 (OpenSpec.ofChange Rows.fnExactFindLargeSpec) false w args)
      (Rows.fnExactFindLargeSpec.post enc Tryd.prog Tryd.f8 false true false false) := by
  refine returnsInHanded_of_change_and (C := Tryd.checked) (X := fun w _ => laidMetH Tryd.prog [("math/bits.deBruijn64tab", Rows.laid_math_bits_deBruijn64tab)] w) (fun _ _ _ hh h => h.of_heap hh) own started (by kernel_rfl) Tryd.func8
    (ChangeSpec.witness_shaped (enc := enc) (C := Tryd.checked) (os := os) (X := fun w _ => laidMetH Tryd.prog [("math/bits.deBruijn64tab", Rows.laid_math_bits_deBruijn64tab)] w) false (World.doorLaid Tryd.prog 14 os) #[.agg #[.int .u64 0, .int .u64 0, .int .u64 0, .int .u64 0, .int .u64 0, .int .u64 0, .int .u64 0, .int .u64 0], .int .u16 0, .int .u16 0] 8 rfl (World.shaped_of_RefB (by kernel_rfl) (by kernel_rfl)) (by kernel_rfl) (by kernel_rfl) (by kernel_rfl) (door_met os _)) ?_
  intro W base args ds gs before hval0 hW _ _ hL _
  have hval : ∀ (j : Nat) t v, Tryd.f8.params[j]? = some t → args[j]? = some v → Value.okWide Tryd.prog W .any base t v := hval0
  have hW' := hW
  obtain ⟨p, q, hA0, hV, rfl, hfz, hnd⟩ := hW
  have hA : DataW.TrodAll enc Tryd.prog W 0 (fun _ => true) true Tryd.f8.params.toList args.toList ds p := hA0
  rw [Tryd.params8] at hA hval
  obtain ⟨v0, vs0, d0, ds0, p0, q0, hargs, rfl, rfl, h0, r0⟩ := trodAll_cons hA
  obtain ⟨v1, vs1, d1, ds1, p1, q1, rfl, rfl, rfl, h1, r1⟩ := trodAll_cons r0
  obtain ⟨v2, vs2, d2, ds2, p2, q2, rfl, rfl, rfl, h2, r2⟩ := trodAll_cons r1
  obtain ⟨rfl, rfl, rfl⟩ := trodAll_nil r2
  obtain rfl : args = #[v0, v1, v2] := by cases args; simp_all
  obtain ⟨rfl, rfl⟩ := trodVars_none hV
  have k0 := h0
  have lt0 : ∀ x ∈ p0, x.block < W.heap.size := by obtain ⟨m, hm⟩ := k0; exact DataW.trod_lt m _ _ _ hm
  obtain ⟨a0, w0, rfl⟩ := open_arr8 (hval 0 23 v0 rfl rfl) h0
  have k1 := h1
  have lt1 : ∀ x ∈ p1, x.block < W.heap.size := by obtain ⟨m, hm⟩ := k1; exact DataW.trod_lt m _ _ _ hm
  obtain ⟨n1, rfl, rfl, rfl, f1⟩ := open_int Tryd.underlying31 (hval 1 31 v1 rfl rfl) h1
  have b1 := bounds_u16 f1
  obtain ⟨a1, rfl⟩ := Int.eq_ofNat_of_zero_le b1.1
  have w1 : a1 < 65536 := by omega
  have k2 := h2
  have lt2 : ∀ x ∈ p2, x.block < W.heap.size := by obtain ⟨m, hm⟩ := k2; exact DataW.trod_lt m _ _ _ hm
  obtain ⟨n2, rfl, rfl, rfl, f2⟩ := open_int Tryd.underlying31 (hval 2 31 v2 rfl rfl) h2
  have b2 := bounds_u16 f2
  obtain ⟨a2, rfl⟩ := Int.eq_ofNat_of_zero_le b2.1
  have w2 : a2 < 65536 := by omega
  clear hA0 hval0
  refine (walk a0 a1 a2 W w0 w1 w2 (tab_of_laid hL)).mono fun e W' ⟨he, bel⟩ => ?_
  subst he
  exact ⟨_, rfl, _, _, _, [], _, [], hW', trodAll_mk1 (shut_bool Tryd.underlying4 _), (trodAll_cons_mk (Below.trod laidOut (by kernel_rfl) (of_decide_eq_true (by kernel_rfl)) k0 bel lt0) (trodAll_cons_mk (Below.trod laidOut (by kernel_rfl) (of_decide_eq_true (by kernel_rfl)) k1 bel lt1) (trodAll_cons_mk (Below.trod laidOut (by kernel_rfl) (of_decide_eq_true (by kernel_rfl)) k2 bel lt2) trodAll_mk0))), rfl, bel.frame _, fun h => by cases h⟩

theorem over1 : Tryd.pinned.checked.prog.funcNamed Rows.fnExactFindLargeRow.func = some 8 := by kernel_rfl
theorem over2 : joinedFacts Tryd.pinned.checked.prog 8 Tryd.f8 Rows.fnExactFindLargeSpec Rows.fnExactFindLargeRow = true := by kernel_rfl
theorem over3 : Tryd.f8.isInstance Tryd.pinned.checked.prog Rows.fnExactFindLargeRow.origin Rows.fnExactFindLargeRow.targs := of_decide_eq_true (by kernel_rfl)
theorem over4 : Tryd.f8.isWrapper Tryd.pinned.checked.prog Rows.fnExactFindLargeRow.wrapper Rows.fnExactFindLargeRow.mainSum := by unfold Func.isWrapper; first | (rw [if_pos (by decide +kernel)]; kernel_rfl) | (rw [if_neg (by decide +kernel)]; exact ⟨rfl, rfl⟩)
theorem over : Rows.fnExactFindLargeRow.holds Tryd.pinned (OpenSpec.ofChange Rows.fnExactFindLargeSpec) :=
  OpenClaim.holds_of_wide 8 Tryd.f8 rfl rfl rfl rfl rfl rfl rfl ⟨rfl, rfl, rfl, rfl, rfl⟩ rfl rfl rfl rfl rfl over1 Tryd.func8 over2 over3 over4
    (fun os started H enc _ => lifted os started H enc)

theorem proved : Rows.FnExactFindLargeCardSaid :=
  Claim7.holds_tied_plain_at .later [] [.data] true (true, "f2e7d653563900c7ead1574bf6931cc5751bd8d21ddad2109745e814cfc3dc11") false
    over (fun _ h => by cases h) (by kernel_rfl) (fun _ h => by cases h) fnExactFindLarge_row_tie rfl ⟨rfl, rfl⟩ (by kernel_rfl) rfl
    (fun f fn hf hfn => by
      obtain rfl : f = 8 := Option.some.inj ((show Tryd.prog.funcNamed "loop.example/pub-pagebitmaps/laws.FnExactFindLarge" = some 8 by kernel_rfl).symm.trans hf) |>.symm
      obtain rfl : fn = Tryd.f8 := (Option.some.inj (Tryd.func8.symm.trans hfn)).symm
      exact ⟨by kernel_rfl, fun j t ht => by
        rw [Tryd.params8] at ht
        have hm : t ∈ [23, 31, 31] := by simpa using Array.mem_of_getElem? ht
        have hall : ([23, 31, 31].all fun u => !Tryd.prog.wantsStandIn u) = true := by kernel_rfl
        exact (show Tryd.prog.wantsStandIn t = false by simpa using List.all_eq_true.1 hall t hm)⟩)
    (by kernel_rfl)
#print axioms proved
end Go.Proofs.YtkocngnpkfnblaaDoor.fnExactFindLarge
