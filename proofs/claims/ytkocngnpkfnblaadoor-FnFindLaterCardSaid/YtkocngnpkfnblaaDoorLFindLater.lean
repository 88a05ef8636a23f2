/- seats: D.
  FnFindLater: for every array of eight words, every n that becomes one of 1 to 512, and every index that From makes of a number: Find from there tells the same as from 0 on, and the pages that it tells are free. No condition but the table that the row lists.
-/
import Derived.Test.YtkocngnpkfnblaaDoorWD
import Derived.Test.YtkocngnpkfnblaaDoorWJ
import Derived.Test.YtkocngnpkfnblaaDoorWL
import Derived.Test.YtkocngnpkfnblaaDoorMH
namespace Go.Proofs.YtkocngnpkfnblaaDoor.fnFindLater
open Go.Proofs.YtkocngnpkfnblaaDoor
open Go.ChangeShapes Go.WideShapes Go.ChangeAt Go.RowKit

set_option maxRecDepth 100000 in
set_option maxHeartbeats 800000 in
theorem walk (b : Nat → Nat) (n0 n1 : Nat) (w : World) (hb : Words b) (hn0 : n0 < 65536) (hn1 : n1 < 65536) (hT : Tab w) :
    Calls Tryd.prog 12 #[(.agg #[.int .u64 (b 0), .int .u64 (b 1), .int .u64 (b 2), .int .u64 (b 3), .int .u64 (b 4), .int .u64 (b 5), .int .u64 (b 6), .int .u64 (b 7)]), .int .u16 (n0 : Int), .int .u16 (n1 : Int)] w (RetTrue w) := by
  have HB := Lib.hid hb
  have HT := Lib.hid hT
  clear hb hT
  obtain ⟨n, hn⟩ : ∃ n : Nat, n = 1 + n0 % 512 := ⟨_, rfl⟩
  have hnr : 1 ≤ n ∧ n ≤ 512 := by omega
  have e1 : (1 : Int) + (n0 : Int) % 512 = (n : Int) := by omega
  clear hn
  have e2 : IntKind.i64.wrap (n : Int) = (n : Int) := IntWalk.i64_in _ ⟨by omega, by omega⟩
  have e3 : IntKind.u64.wrap (n : Int) = (n : Int) := IntWalk.u64_in _ (by omega)
  go_enter Tryd.func12, Tryd.ntmps12
  go_wp2_with fail
  have hc0 : Cells8 (w.alloc (.cells #[.int .u64 (b 0), .int .u64 (b 1), .int .u64 (b 2), .int .u64 (b 3), .int .u64 (b 4), .int .u64 (b 5), .int .u64 (b 6), .int .u64 (b 7)] 23)) w.heap.size 23 b := Cells8.new' w _ _ _ rfl
  refine (impl_Find b n 0 _ (HT.out.alloc _) HB.out hnr (by omega) (by omega)).mono ?_
  rintro e w1 ⟨x, p, hx, rfl, hbel⟩
  have HX := Lib.hid hx
  have hc1 : Cells8 w1 w.heap.size 23 b := hc0.below hbel (by simp)
  have hb1 : Below w.heap.size w w1 := ((Below.refl _ _).alloc (Nat.le_refl _) _).trans (hbel.mono (by simp))
  have HB1 := Lib.hid hb1
  have HC1 := Lib.hid hc1
  have HT1 := Lib.hid (HT.out.of hb1)
  clear hbel hb1 hc0 hc1 hx
  go_wp2_with fail
  have tk1 : True := trivial
  go_region_held3 (fun w' => (w'.cell? ⟨w.heap.size, 0, none⟩ = some (.int .u64 (b 0)) ∧ w'.cell? ⟨w.heap.size, 1, none⟩ = some (.int .u64 (b 1)) ∧ w'.cell? ⟨w.heap.size, 2, none⟩ = some (.int .u64 (b 2)) ∧ w'.cell? ⟨w.heap.size, 3, none⟩ = some (.int .u64 (b 3)) ∧ w'.cell? ⟨w.heap.size, 4, none⟩ = some (.int .u64 (b 4)) ∧ w'.cell? ⟨w.heap.size, 5, none⟩ = some (.int .u64 (b 5)) ∧ w'.cell? ⟨w.heap.size, 6, none⟩ = some (.int .u64 (b 6)) ∧ w'.cell? ⟨w.heap.size, 7, none⟩ = some (.int .u64 (b 7)) ∧ Below (w.heap.size + 1) w1 w' ∧ w.heap.size < w'.heap.size))
    (first | assumption | exact first8 HC1.out | exact keep8 (by assumption) (by assumption))
    (first
     | (have _t := tk1; go_at_call 26; refine (from_any b n1 _ HB.out hn1).mono ?_; rintro e w2 ⟨s, hs, rfl, hb2⟩; have HI := Lib.hid hs; clear hs _t tk1; have tk2 : True := trivial)
     | (have _t := tk2; go_at_call 20; refine (impl_Find b n s _ (HT1.out.below (below8 (by assumption)) (by omega)) HB.out hnr HI.out.1 HI.out.2).mono ?_; rintro e w3 ⟨y, q, hy, rfl, hb3⟩; have HY := Lib.hid hy; clear hy _t tk2; have tk3 : True := trivial))
  rename_i hS
  have HS := Lib.hid hS
  obtain ⟨f0, f1, f2, f3, f4, f5, f6, f7, _, hsz⟩ := hS
  have hfin : Below w.heap.size w w3 := HB1.out.trans ((below8 HS.out).mono (by omega))
  have HE := Lib.hid hfin
  clear hb2 hb3 hfin
  rcases HX.out.same hnr.1 HY.out with ⟨rfl, rfl, hno⟩ | ⟨h1, rfl, rfl, h2, h3, h4⟩
  · have HN := Lib.hid hno
    clear hno
    go_wp2_with fail
    refine (pages_box _ HB.out HS.out).mono ?_
    rintro e w4 ⟨v, rfl, hl, hb4⟩
    have HR := Lib.hid (hl.reads (pg_ne b))
    have HB4 := Lib.hid (HE.out.trans (hb4.mono HE.out.size))
    clear hl hb4
    go_wp2_with fail
    refine (first_pg _ v b n _ ⟨by omega, by omega⟩ HR.out).mono ?_
    rintro e w5 ⟨r0, hr0, rfl, rfl⟩
    obtain rfl := hr0.unique HN.out.first
    clear hr0
    go_wp2
    go_ret
    exact ⟨rfl, HB4.out⟩
  · have d1 : decide ((512 : Int) ≤ (y : Int)) = false := by simp; omega
    have ew : IntKind.i64.wrap (y : Int) = (y : Int) := IntWalk.i64_in _ ⟨by omega, by omega⟩
    have HF := Lib.hid (h3.free h1)
    clear h3 h4
    go_wp2_with fail
    refine (pages_box _ HB.out HS.out).mono ?_
    rintro e w4 ⟨v, rfl, hl, hb4⟩
    have HR := Lib.hid (hl.reads (pg_ne b))
    have HB4 := Lib.hid (HE.out.trans (hb4.mono HE.out.size))
    clear hl hb4
    go_wp2_with fail
    refine (free_pg _ v b y n _ (by omega) (by omega) HR.out).mono ?_
    rintro e w5 ⟨z, hz, rfl, rfl⟩
    obtain rfl := hz.2 HF.out
    clear hz
    go_wp2
    go_ret
    exact ⟨rfl, HB4.out⟩

set_option maxRecDepth 100000 in
theorem lifted (os : Os) (started : os.Started) (H : Type) (enc : TypeId × Value → H) :
    ReturnsInHanded {} Tryd.checked os 12 .any (fun w args => (Rows.fnFindLaterSpec.pre enc Tryd.prog Tryd.f12 [] false w args ∧ laidMetH Tryd.prog [("math/bits.deBruijn64tab", Rows.laid_math_bits_deBruijn64tab)] w) ∧ sizedMet enc Tryd.prog Tryd.f12 (OpenSpec.ofChange Rows.fnFindLaterSpec) false w args)
      (Rows.fnFindLaterSpec.post enc Tryd.prog Tryd.f12 false true false false) := by
  refine returnsInHanded_of_change_and (C := Tryd.checked) (X := fun w _ => laidMetH Tryd.prog [("math/bits.deBruijn64tab", Rows.laid_math_bits_deBruijn64tab)] w) (fun _ _ _ hh h => h.of_heap hh) own started (by kernel_rfl) Tryd.func12
    (ChangeSpec.witness_shaped (enc := enc) (C := Tryd.checked) (os := os) (X := fun w _ => laidMetH Tryd.prog [("math/bits.deBruijn64tab", Rows.laid_math_bits_deBruijn64tab)] w) false (World.doorLaid Tryd.prog 14 os) #[.agg #[.int .u64 0, .int .u64 0, .int .u64 0, .int .u64 0, .int .u64 0, .int .u64 0, .int .u64 0, .int .u64 0], .int .u16 0, .int .u16 0] 8 rfl (World.shaped_of_RefB (by kernel_rfl) (by kernel_rfl)) (by kernel_rfl) (by kernel_rfl) (by kernel_rfl) (door_met os _)) ?_
  intro W base args ds gs before hval0 hW _ _ hL _
  have hval : ∀ (j : Nat) t v, Tryd.f12.params[j]? = some t → args[j]? = some v → Value.okWide Tryd.prog W .any base t v := hval0
  have hW' := hW
  obtain ⟨p, q, hA0, hV, rfl, hfz, hnd⟩ := hW
  have hA : DataW.TrodAll enc Tryd.prog W 0 (fun _ => true) true Tryd.f12.params.toList args.toList ds p := hA0
  rw [Tryd.params12] at hA hval
  obtain ⟨v0, vs0, d0, ds0, p0, q0, hargs, rfl, rfl, h0, r0⟩ := trodAll_cons hA
  obtain ⟨v1, vs1, d1, ds1, p1, q1, rfl, rfl, rfl, h1, r1⟩ := trodAll_cons r0
  obtain ⟨v2, vs2, d2, ds2, p2, q2, rfl, rfl, rfl, h2, r2⟩ := trodAll_cons r1
  obtain ⟨rfl, rfl, rfl⟩ := trodAll_nil r2
  obtain rfl : args = #[v0, v1, v2] := by cases args; simp_all
  obtain ⟨rfl, rfl⟩ := trodVars_none hV
  have k0 := h0
  have lt0 : ∀ x ∈ p0, x.block < W.heap.size := by obtain ⟨m, hm⟩ := k0; exact DataW.trod_lt m _ _ _ hm
  obtain ⟨a0, w0, rfl⟩ := open_arr8 (hval 0 23 v0 rfl rfl) h0
  have k1 := h1
  have lt1 : ∀ x ∈ p1, x.block < W.heap.size := by obtain ⟨m, hm⟩ := k1; exact DataW.trod_lt m _ _ _ hm
  obtain ⟨n1, rfl, rfl, rfl, f1⟩ := open_int Tryd.underlying31 (hval 1 31 v1 rfl rfl) h1
  have b1 := bounds_u16 f1
  obtain ⟨a1, rfl⟩ := Int.eq_ofNat_of_zero_le b1.1
  have w1 : a1 < 65536 := by omega
  have k2 := h2
  have lt2 : ∀ x ∈ p2, x.block < W.heap.size := by obtain ⟨m, hm⟩ := k2; exact DataW.trod_lt m _ _ _ hm
  obtain ⟨n2, rfl, rfl, rfl, f2⟩ := open_int Tryd.underlying31 (hval 2 31 v2 rfl rfl) h2
  have b2 := bounds_u16 f2
  obtain ⟨a2, rfl⟩ := Int.eq_ofNat_of_zero_le b2.1
  have w2 : a2 < 65536 := by omega
  clear hA0 hval0
  refine (walk a0 a1 a2 W w0 w1 w2 (tab_of_laid hL)).mono fun e W' ⟨he, bel⟩ => ?_
  subst he
  exact ⟨_, rfl, _, _, _, [], _, [], hW', trodAll_mk1 (shut_bool Tryd.underlying4 _), (trodAll_cons_mk (Below.trod laidOut (by kernel_rfl) (of_decide_eq_true (by kernel_rfl)) k0 bel lt0) (trodAll_cons_mk (Below.trod laidOut (by kernel_rfl) (of_decide_eq_true (by kernel_rfl)) k1 bel lt1) (trodAll_cons_mk (Below.trod laidOut (by kernel_rfl) (of_decide_eq_true (by kernel_rfl)) k2 bel lt2) trodAll_mk0))), rfl, bel.frame _, fun h => by cases h⟩

theorem over1 : Tryd.pinned.checked.prog.funcNamed Rows.fnFindLaterRow.func = some 12 := by kernel_rfl
theorem over2 : joinedFacts Tryd.pinned.checked.prog 12 Tryd.f12 Rows.fnFindLaterSpec Rows.fnFindLaterRow = true := by kernel_rfl
theorem over3 : Tryd.f12.isInstance Tryd.pinned.checked.prog Rows.fnFindLaterRow.origin Rows.fnFindLaterRow.targs := of_decide_eq_true (by kernel_rfl)
theorem over4 : Tryd.f12.isWrapper Tryd.pinned.checked.prog Rows.fnFindLaterRow.wrapper Rows.fnFindLaterRow.mainSum := by unfold Func.isWrapper; first | (rw [if_pos (by decide +kernel)]; kernel_rfl) | (rw [if_neg (by decide +kernel)]; exact ⟨rfl, rfl⟩)
theorem over : Rows.fnFindLaterRow.holds Tryd.pinned (OpenSpec.ofChange Rows.fnFindLaterSpec) :=
  OpenClaim.holds_of_wide 12 Tryd.f12 rfl rfl rfl rfl rfl rfl rfl ⟨rfl, rfl, rfl, rfl, rfl⟩ rfl rfl rfl rfl rfl over1 Tryd.func12 over2 over3 over4
    (fun os started H enc _ => lifted os started H enc)

theorem proved : Rows.FnFindLaterCardSaid :=
  Claim7.holds_tied_plain_at .later [] [.data] true (true, "f2e7d653563900c7ead1574bf6931cc5751bd8d21ddad2109745e814cfc3dc11") false
    over (fun _ h => by cases h) (by kernel_rfl) (fun _ h => by cases h) fnFindLater_row_tie rfl ⟨rfl, rfl⟩ (by kernel_rfl) rfl
    (fun f fn hf hfn => by
      obtain rfl : f = 12 := Option.some.inj ((show Tryd.prog.funcNamed "loop.example/pub-pagebitmaps/laws.FnFindLater" = some 12 by kernel_rfl).symm.trans hf) |>.symm
      obtain rfl : fn = Tryd.f12 := (Option.some.inj (Tryd.func12.symm.trans hfn)).symm
      exact ⟨by kernel_rfl, fun j t ht => by
        rw [Tryd.params12] at ht
        have hm : t ∈ [23, 31, 31] := by simpa using Array.mem_of_getElem? ht
        have hall : ([23, 31, 31].all fun u => !Tryd.prog.wantsStandIn u) = true := by kernel_rfl
        exact (show Tryd.prog.wantsStandIn t = false by simpa using List.all_eq_true.1 hall t hm)⟩)
    (by kernel_rfl)
#print axioms proved
end Go.Proofs.YtkocngnpkfnblaaDoor.fnFindLater
