/- seats: D.
  FnFindAlloc: for every array of eight words and every n that becomes one of 1 to 512: pages that Find finds are in use when they are put into use, no other one is, and set free they are as before; where it finds none, none is there. No condition but the table that the row lists. (Written by gen_ld.py.)
-/
import Derived.Test.YtkocngnpkfnblaaDoorWD
import Derived.Test.YtkocngnpkfnblaaDoorWJ
import Derived.Test.YtkocngnpkfnblaaDoorWL
import Derived.Test.YtkocngnpkfnblaaDoorMI
import Derived.Test.YtkocngnpkfnblaaDoorWY2
import Derived.Deep.DeepCutAuto
import Derived.Deep.AppendLies
namespace Go.Proofs.YtkocngnpkfnblaaDoor.fnFindAlloc
open Go.Proofs.YtkocngnpkfnblaaDoor
open Go.ChangeShapes Go.WideShapes Go.ChangeAt Go.RowKit

theorem keepD {n1 n2 : Nat} {b1 b2 : Nat → Nat} {W0 W w2 : World} (hb : Below W.heap.size W w2) (h : ((W.cell? ⟨n1, 0, none⟩ = some (.int .u64 (b1 0)) ∧ W.cell? ⟨n1, 1, none⟩ = some (.int .u64 (b1 1)) ∧ W.cell? ⟨n1, 2, none⟩ = some (.int .u64 (b1 2)) ∧ W.cell? ⟨n1, 3, none⟩ = some (.int .u64 (b1 3)) ∧ W.cell? ⟨n1, 4, none⟩ = some (.int .u64 (b1 4)) ∧ W.cell? ⟨n1, 5, none⟩ = some (.int .u64 (b1 5)) ∧ W.cell? ⟨n1, 6, none⟩ = some (.int .u64 (b1 6)) ∧ W.cell? ⟨n1, 7, none⟩ = some (.int .u64 (b1 7)) ∧ Below (n1 + 1) W0 W ∧ n1 < W.heap.size)) ∧ ((W.cell? ⟨n2, 0, none⟩ = some (.int .u64 (b2 0)) ∧ W.cell? ⟨n2, 1, none⟩ = some (.int .u64 (b2 1)) ∧ W.cell? ⟨n2, 2, none⟩ = some (.int .u64 (b2 2)) ∧ W.cell? ⟨n2, 3, none⟩ = some (.int .u64 (b2 3)) ∧ W.cell? ⟨n2, 4, none⟩ = some (.int .u64 (b2 4)) ∧ W.cell? ⟨n2, 5, none⟩ = some (.int .u64 (b2 5)) ∧ W.cell? ⟨n2, 6, none⟩ = some (.int .u64 (b2 6)) ∧ W.cell? ⟨n2, 7, none⟩ = some (.int .u64 (b2 7)) ∧ Below (n2 + 1) W0 W ∧ n2 < W.heap.size))) : ((w2.cell? ⟨n1, 0, none⟩ = some (.int .u64 (b1 0)) ∧ w2.cell? ⟨n1, 1, none⟩ = some (.int .u64 (b1 1)) ∧ w2.cell? ⟨n1, 2, none⟩ = some (.int .u64 (b1 2)) ∧ w2.cell? ⟨n1, 3, none⟩ = some (.int .u64 (b1 3)) ∧ w2.cell? ⟨n1, 4, none⟩ = some (.int .u64 (b1 4)) ∧ w2.cell? ⟨n1, 5, none⟩ = some (.int .u64 (b1 5)) ∧ w2.cell? ⟨n1, 6, none⟩ = some (.int .u64 (b1 6)) ∧ w2.cell? ⟨n1, 7, none⟩ = some (.int .u64 (b1 7)) ∧ Below (n1 + 1) W0 w2 ∧ n1 < w2.heap.size)) ∧ ((w2.cell? ⟨n2, 0, none⟩ = some (.int .u64 (b2 0)) ∧ w2.cell? ⟨n2, 1, none⟩ = some (.int .u64 (b2 1)) ∧ w2.cell? ⟨n2, 2, none⟩ = some (.int .u64 (b2 2)) ∧ w2.cell? ⟨n2, 3, none⟩ = some (.int .u64 (b2 3)) ∧ w2.cell? ⟨n2, 4, none⟩ = some (.int .u64 (b2 4)) ∧ w2.cell? ⟨n2, 5, none⟩ = some (.int .u64 (b2 5)) ∧ w2.cell? ⟨n2, 6, none⟩ = some (.int .u64 (b2 6)) ∧ w2.cell? ⟨n2, 7, none⟩ = some (.int .u64 (b2 7)) ∧ Below (n2 + 1) W0 w2 ∧ n2 < w2.heap.size)) :=
  ⟨keep8 hb h.1, keep8 hb h.2⟩
theorem back_free {b c : Nat → Nat} {r n : Nat} (hb : Words b) (hf : FreeAt (bt b) 512 r n) (h : SetTo b r n c) : ClearTo c r n b :=
  ⟨hb, fun k hk => by
    rw [h.2 k hk]
    cases hd : (decide (r ≤ k) && decide (k < r + n))
    · simp
    · simp at hd
      simp [hf.2 k hd.1 hd.2]⟩
theorem cnt_set {b c : Nat → Nat} {a m : Nat} (h : SetTo b a m c) (hr : a + m ≤ 512) : cnt (bt c) a m = m :=
  cnt_all fun k hk => by
    rw [h.2 _ (by omega)]
    have : (decide (a ≤ a + k) && decide (a + k < a + m)) = true := by simp; omega
    rw [this, Bool.or_true]

set_option maxRecDepth 100000 in
set_option maxHeartbeats 1600000 in
theorem walk (b : Nat → Nat) (n0 : Nat) (w : World) (hb : Words b) (hn0 : n0 < 65536) (hT : Tab w) :
    Calls Tryd.prog 4 #[(.agg #[.int .u64 (b 0), .int .u64 (b 1), .int .u64 (b 2), .int .u64 (b 3), .int .u64 (b 4), .int .u64 (b 5), .int .u64 (b 6), .int .u64 (b 7)]), .int .u16 (n0 : Int)] w (RetTrue w) := by
  have HB := Lib.hid hb
  have HT := Lib.hid hT
  clear hb hT
  obtain ⟨n, hn⟩ : ∃ n : Nat, n = 1 + n0 % 512 := ⟨_, rfl⟩
  have hnr : 1 ≤ n ∧ n ≤ 512 := by omega
  have e1 : (1 : Int) + (n0 : Int) % 512 = (n : Int) := by omega
  clear hn
  have e2 : IntKind.i64.wrap (n : Int) = (n : Int) := IntWalk.i64_in _ ⟨by omega, by omega⟩
  have e3 : IntKind.u64.wrap (n : Int) = (n : Int) := IntWalk.u64_in _ (by omega)
  go_enter Tryd.func4, Tryd.ntmps4
  go_wp2_with fail
  have HC0 : Hid (Cells8 (w.alloc (.cells #[.int .u64 (b 0), .int .u64 (b 1), .int .u64 (b 2), .int .u64 (b 3), .int .u64 (b 4), .int .u64 (b 5), .int .u64 (b 6), .int .u64 (b 7)] 23)) w.heap.size 23 b) := Cells8.new' w _ _ _ rfl
  have HB0 : Hid (Below w.heap.size w (w.alloc (.cells #[.int .u64 (b 0), .int .u64 (b 1), .int .u64 (b 2), .int .u64 (b 3), .int .u64 (b 4), .int .u64 (b 5), .int .u64 (b 6), .int .u64 (b 7)] 23))) := (Below.refl _ _).alloc (Nat.le_refl _) _
  refine (impl_Find b n 0 _ (HT.out.of HB0.out) HB.out hnr (by omega) (by omega)).mono ?_
  rintro e w1 ⟨r, q, hQ, rfl, hb1⟩
  have HB1 := Lib.hid (HB0.out.trans (hb1.mono HB0.out.size))
  have HC1 := Lib.hid (HC0.out.below hb1 HC0.out.lt)
  have HQ := Lib.hid hQ
  clear hQ
  clear hb1
  try clear f0 f1 f2 f3 f4 f5 f6 f7
  obtain ⟨f0, f1, f2, f3, f4, f5, f6, f7⟩ := HC1.out.facts
  rcases HQ.out with ⟨h1, h2, _⟩ | ⟨rfl, h2⟩
  · have hf := h2.free h1
    have hrn : r + n ≤ 512 := hf.1
    have HF := Lib.hid hf
    have d1 : decide ((512 : Int) ≤ (r : Int)) = false := by simp; omega
    clear h2 hf
    go_wp2_with fail
    refine (impl_AllocRange b r n _ HB.out ⟨hnr.1, hrn⟩).mono ?_
    rintro e w2 ⟨c, hP, rfl, hb2⟩
    have HB2 := Lib.hid (HB1.out.trans (hb2.mono HB1.out.size))
    have HC2 := Lib.hid (HC1.out.below hb2 HC1.out.lt)
    have hsz2 : w.heap.size < w2.heap.size := HC2.out.lt
    have HP := Lib.hid hP
    have HBK := Lib.hid (back_free HB.out HF.out hP)
    have hq : cnt (bt b) 0 512 ≤ 512 := cnt_le _ _ _
    obtain ⟨k, hk⟩ : ∃ k, cnt (bt b) 0 512 = k := ⟨_, rfl⟩
    have HK := Lib.hid hk
    have HK2 : Hid (cnt (bt c) 0 512 = k + n) := by
      show cnt (bt c) 0 512 = k + n
      rw [← hk]
      exact cnt_put HF.out hP.2
    have HK3 : Hid (cnt (bt c) r n = n) := cnt_set hP hrn
    rw [hk] at hq
    have es : IntKind.u64.wrap ((k : Int) + (n : Int)) = ((k + n : Nat) : Int) := by rw [IntWalk.u64_in _ (by omega)]; rfl
    have heq := eql_same b
    clear hb2 hP hk f0 f1 f2 f3 f4 f5 f6 f7
    go_upto_region 6 with fail
    generalize hW3 : w2.alloc _ = W3
    have hc3 : Cells8 W3 w.heap.size 23 b := by rw [← hW3]; exact HC2.out.alloc _
    have hd3 : Cells8 W3 w2.heap.size 23 c := by rw [← hW3]; exact Cells8.new' _ _ _ _ rfl
    have hb3 : Below w.heap.size w W3 := by rw [← hW3]; exact HB2.out.alloc HB2.out.size _
    clear hW3
    have HC3 := Lib.hid hc3
    have HD3 := Lib.hid hd3
    have HB3 := Lib.hid hb3
    clear hc3 hd3 hb3
    have tk1 : True := trivial
    go_region_held3 (fun w' => ((w'.cell? ⟨w.heap.size, 0, none⟩ = some (.int .u64 (b 0)) ∧ w'.cell? ⟨w.heap.size, 1, none⟩ = some (.int .u64 (b 1)) ∧ w'.cell? ⟨w.heap.size, 2, none⟩ = some (.int .u64 (b 2)) ∧ w'.cell? ⟨w.heap.size, 3, none⟩ = some (.int .u64 (b 3)) ∧ w'.cell? ⟨w.heap.size, 4, none⟩ = some (.int .u64 (b 4)) ∧ w'.cell? ⟨w.heap.size, 5, none⟩ = some (.int .u64 (b 5)) ∧ w'.cell? ⟨w.heap.size, 6, none⟩ = some (.int .u64 (b 6)) ∧ w'.cell? ⟨w.heap.size, 7, none⟩ = some (.int .u64 (b 7)) ∧ Below (w.heap.size + 1) W3 w' ∧ w.heap.size < w'.heap.size)) ∧ ((w'.cell? ⟨w2.heap.size, 0, none⟩ = some (.int .u64 (c 0)) ∧ w'.cell? ⟨w2.heap.size, 1, none⟩ = some (.int .u64 (c 1)) ∧ w'.cell? ⟨w2.heap.size, 2, none⟩ = some (.int .u64 (c 2)) ∧ w'.cell? ⟨w2.heap.size, 3, none⟩ = some (.int .u64 (c 3)) ∧ w'.cell? ⟨w2.heap.size, 4, none⟩ = some (.int .u64 (c 4)) ∧ w'.cell? ⟨w2.heap.size, 5, none⟩ = some (.int .u64 (c 5)) ∧ w'.cell? ⟨w2.heap.size, 6, none⟩ = some (.int .u64 (c 6)) ∧ w'.cell? ⟨w2.heap.size, 7, none⟩ = some (.int .u64 (c 7)) ∧ Below (w2.heap.size + 1) W3 w' ∧ w2.heap.size < w'.heap.size)))
      (first | with_reducible assumption | exact ⟨first8 HC3.out, first8 HD3.out⟩ | exact keepD (by with_reducible assumption) (by with_reducible assumption))
      (first
       | (have _t := tk1; go_at_call 18; refine (impl_PopCount c r n _ HP.out.1 ⟨hnr.1, hrn⟩).mono ?_; rintro e w4 ⟨x, hx, rfl, hb4⟩; obtain rfl : n = x := (hx.trans HK3.out).symm; clear hx _t tk1; have tk2 : True := trivial)
       | (have _t := tk2; go_at_call 18; refine (impl_PopCount c 0 512 _ HP.out.1 ⟨by decide, by decide⟩).mono ?_; rintro e w5 ⟨x, hx, rfl, hb5⟩; obtain rfl : k + n = x := (hx.trans HK2.out).symm; clear hx _t tk2; have tk3 : True := trivial)
       | (have _t := tk3; go_at_call 18; refine (impl_PopCount b 0 512 _ HB.out ⟨by decide, by decide⟩).mono ?_; rintro e w6 ⟨x, hx, rfl, hb6⟩; obtain rfl : k = x := (hx.trans HK.out).symm; clear hx _t tk3; have tk4 : True := trivial)
       | (have _t := tk4; go_at_call 24; refine (impl_FreeRange_eq c r n b HBK.out _ HP.out.1 ⟨hnr.1, hrn⟩).mono ?_; rintro e w7 ⟨rfl, hb7⟩; clear _t tk4; have tk5 : True := trivial))
    rename_i hS
    have hfin : Below w.heap.size w w7 := HB3.out.trans ((below8 hS.1).mono (by omega))
    have HE := Lib.hid hfin
    clear hS hb4 hb5 hb6 hb7 hfin
    go_wp2
    go_ret
    exact ⟨rfl, HE.out⟩
  · have HN := Lib.hid h2
    clear h2
    go_wp2_with fail
    refine (pages_any w.heap.size 8 8 b (Nat.le_refl _) _ HC1.out.lt HB.out (fun j hj => HC1.out.cell hj)).mono ?_
    rintro e w4 ⟨v, rfl, hl, hb4⟩
    have HR := Lib.hid (hl.reads (pg_ne b))
    have HB4 := Lib.hid (HB1.out.trans (hb4.mono HB1.out.size))
    clear hl hb4
    go_wp2_with fail
    refine (first_pg _ v b n _ ⟨by omega, by omega⟩ HR.out).mono ?_
    rintro e w5 ⟨r0, hr0, rfl, rfl⟩
    obtain rfl := hr0.unique HN.out.first
    clear hr0
    go_wp2
    go_ret
    exact ⟨rfl, HB4.out⟩

set_option maxRecDepth 100000 in
theorem lifted (os : Os) (started : os.Started) (H : Type) (enc : TypeId × Value → H) :
    ReturnsInHanded {} Tryd.checked os 4 .any (fun w args => (Rows.fnFindAllocSpec.pre enc Tryd.prog Tryd.f4 [] false w args ∧ laidMetH Tryd.prog [("math/bits.deBruijn64tab", Rows.laid_math_bits_deBruijn64tab)] w) ∧ sizedMet enc Tryd.prog Tryd.f4 (OpenSpec.ofChange Rows.fnFindAllocSpec) false w args)
      (Rows.fnFindAllocSpec.post enc Tryd.prog Tryd.f4 false true false false) := by
  refine returnsInHanded_of_change_and (C := Tryd.checked) (X := fun w _ => laidMetH Tryd.prog [("math/bits.deBruijn64tab", Rows.laid_math_bits_deBruijn64tab)] w) (fun _ _ _ hh h => h.of_heap hh) own started (by kernel_rfl) Tryd.func4
    (ChangeSpec.witness_shaped (enc := enc) (C := Tryd.checked) (os := os) (X := fun w _ => laidMetH Tryd.prog [("math/bits.deBruijn64tab", Rows.laid_math_bits_deBruijn64tab)] w) false (World.doorLaid Tryd.prog 14 os) #[.agg #[.int .u64 0, .int .u64 0, .int .u64 0, .int .u64 0, .int .u64 0, .int .u64 0, .int .u64 0, .int .u64 0], .int .u16 0] 8 rfl (World.shaped_of_RefB (by kernel_rfl) (by kernel_rfl)) (by kernel_rfl) (by kernel_rfl) (by kernel_rfl) (door_met os _)) ?_
  intro W base args ds gs before hval0 hW _ _ hL _
  have hval : ∀ (j : Nat) t v, Tryd.f4.params[j]? = some t → args[j]? = some v → Value.okWide Tryd.prog W .any base t v := hval0
  have hW' := hW
  obtain ⟨p, q, hA0, hV, rfl, hfz, hnd⟩ := hW
  have hA : DataW.TrodAll enc Tryd.prog W 0 (fun _ => true) true Tryd.f4.params.toList args.toList ds p := hA0
  rw [Tryd.params4] at hA hval
  obtain ⟨v0, vs0, d0, ds0, p0, q0, hargs, rfl, rfl, h0, r0⟩ := trodAll_cons hA
  obtain ⟨v1, vs1, d1, ds1, p1, q1, rfl, rfl, rfl, h1, r1⟩ := trodAll_cons r0
  obtain ⟨rfl, rfl, rfl⟩ := trodAll_nil r1
  obtain rfl : args = #[v0, v1] := by cases args; simp_all
  obtain ⟨rfl, rfl⟩ := trodVars_none hV
  have k0 := h0
  have lt0 : ∀ x ∈ p0, x.block < W.heap.size := by obtain ⟨m, hm⟩ := k0; exact DataW.trod_lt m _ _ _ hm
  obtain ⟨a0, w0, rfl⟩ := open_arr8 (hval 0 23 v0 rfl rfl) h0
  have k1 := h1
  have lt1 : ∀ x ∈ p1, x.block < W.heap.size := by obtain ⟨m, hm⟩ := k1; exact DataW.trod_lt m _ _ _ hm
  obtain ⟨n1, rfl, rfl, rfl, f1⟩ := open_int Tryd.underlying31 (hval 1 31 v1 rfl rfl) h1
  have b1 := bounds_u16 f1
  obtain ⟨a1, rfl⟩ := Int.eq_ofNat_of_zero_le b1.1
  have w1 : a1 < 65536 := by omega
  clear hA0 hval0
  refine (walk a0 a1 W w0 w1 (tab_of_laid hL)).mono fun e W' ⟨he, bel⟩ => ?_
  subst he
  exact ⟨_, rfl, _, _, _, [], _, [], hW', trodAll_mk1 (shut_bool Tryd.underlying4 _), (trodAll_cons_mk (Below.trod laidOut (by kernel_rfl) (of_decide_eq_true (by kernel_rfl)) k0 bel lt0) (trodAll_cons_mk (Below.trod laidOut (by kernel_rfl) (of_decide_eq_true (by kernel_rfl)) k1 bel lt1) trodAll_mk0)), rfl, bel.frame _, fun h => by cases h⟩

theorem over1 : Tryd.pinned.checked.prog.funcNamed Rows.fnFindAllocRow.func = some 4 := by kernel_rfl
theorem over2 : joinedFacts Tryd.pinned.checked.prog 4 Tryd.f4 Rows.fnFindAllocSpec Rows.fnFindAllocRow = true := by kernel_rfl
theorem over3 : Tryd.f4.isInstance Tryd.pinned.checked.prog Rows.fnFindAllocRow.origin Rows.fnFindAllocRow.targs := of_decide_eq_true (by kernel_rfl)
theorem over4 : Tryd.f4.isWrapper Tryd.pinned.checked.prog Rows.fnFindAllocRow.wrapper Rows.fnFindAllocRow.mainSum := by unfold Func.isWrapper; first | (rw [if_pos (by decide +kernel)]; kernel_rfl) | (rw [if_neg (by decide +kernel)]; exact ⟨rfl, rfl⟩)
theorem over : Rows.fnFindAllocRow.holds Tryd.pinned (OpenSpec.ofChange Rows.fnFindAllocSpec) :=
  OpenClaim.holds_of_wide 4 Tryd.f4 rfl rfl rfl rfl rfl rfl rfl ⟨rfl, rfl, rfl, rfl, rfl⟩ rfl rfl rfl rfl rfl over1 Tryd.func4 over2 over3 over4
    (fun os started H enc _ => lifted os started H enc)

theorem proved : Rows.FnFindAllocCardSaid :=
  Claim7.holds_tied_plain_at .later [] [.data] true (true, "f2e7d653563900c7ead1574bf6931cc5751bd8d21ddad2109745e814cfc3dc11") false
    over (fun _ h => by cases h) (by kernel_rfl) (fun _ h => by cases h) fnFindAlloc_row_tie rfl ⟨rfl, rfl⟩ (by kernel_rfl) rfl
    (fun f fn hf hfn => by
      obtain rfl : f = 4 := Option.some.inj ((show Tryd.prog.funcNamed "loop.example/pub-pagebitmaps/laws.FnFindAlloc" = some 4 by kernel_rfl).symm.trans hf) |>.symm
      obtain rfl : fn = Tryd.f4 := (Option.some.inj (Tryd.func4.symm.trans hfn)).symm
      exact ⟨by kernel_rfl, fun j t ht => by
        rw [Tryd.params4] at ht
        have hm : t ∈ [23, 31] := by simpa using Array.mem_of_getElem? ht
        have hall : ([23, 31].all fun u => !Tryd.prog.wantsStandIn u) = true := by kernel_rfl
        exact (show Tryd.prog.wantsStandIn t = false by simpa using List.all_eq_true.1 hall t hm)⟩)
    (by kernel_rfl)
#print axioms proved
end Go.Proofs.YtkocngnpkfnblaaDoor.fnFindAlloc
