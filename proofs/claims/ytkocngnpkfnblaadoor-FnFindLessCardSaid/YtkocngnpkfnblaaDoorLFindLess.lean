/- seats: D.
  FnFindLess: for every array of eight words and every n and m that become two of 1 to 512: the fewer pages are found at the same page or ahead of it, or none of both is found, and they are free. No condition but the table that the row lists. (Written by gen_ld.py.)
-/
import Derived.Test.YtkocngnpkfnblaaDoorWD
import Derived.Test.YtkocngnpkfnblaaDoorWJ
import Derived.Test.YtkocngnpkfnblaaDoorWL
import Derived.Test.YtkocngnpkfnblaaDoorMI
namespace Go.Proofs.YtkocngnpkfnblaaDoor.fnFindLess
open Go.Proofs.YtkocngnpkfnblaaDoor
open Go.ChangeShapes Go.WideShapes Go.ChangeAt Go.RowKit

set_option maxRecDepth 100000 in
set_option maxHeartbeats 1600000 in
theorem walk (b : Nat → Nat) (n0 m0 : Nat) (w : World) (hb : Words b) (hn0 : n0 < 65536) (hm0 : m0 < 65536) (hT : Tab w) :
    Calls Tryd.prog 13 #[(.agg #[.int .u64 (b 0), .int .u64 (b 1), .int .u64 (b 2), .int .u64 (b 3), .int .u64 (b 4), .int .u64 (b 5), .int .u64 (b 6), .int .u64 (b 7)]), .int .u16 (n0 : Int), .int .u16 (m0 : Int)] w (RetTrue w) := by
  have HB := Lib.hid hb
  have HT := Lib.hid hT
  clear hb hT
  obtain ⟨n1, hn⟩ : ∃ n : Nat, n = 1 + n0 % 512 := ⟨_, rfl⟩
  obtain ⟨m1, hm⟩ : ∃ n : Nat, n = 1 + m0 % 512 := ⟨_, rfl⟩
  have hnr : 1 ≤ n1 ∧ n1 ≤ 512 := by omega
  have hmr : 1 ≤ m1 ∧ m1 ≤ 512 := by omega
  have e1 : (1 : Int) + (n0 : Int) % 512 = (n1 : Int) := by omega
  have g1 : (1 : Int) + (m0 : Int) % 512 = (m1 : Int) := by omega
  clear hn hm
  have e2 : IntKind.i64.wrap (n1 : Int) = (n1 : Int) := IntWalk.i64_in _ ⟨by omega, by omega⟩
  have e3 : IntKind.u64.wrap (n1 : Int) = (n1 : Int) := IntWalk.u64_in _ (by omega)
  have g2 : IntKind.i64.wrap (m1 : Int) = (m1 : Int) := IntWalk.i64_in _ ⟨by omega, by omega⟩
  have g3 : IntKind.u64.wrap (m1 : Int) = (m1 : Int) := IntWalk.u64_in _ (by omega)
  by_cases hnm : n1 < m1
  · have hd : decide ((n1 : Int) < (m1 : Int)) = true := by simp; omega
    go_enter Tryd.func13, Tryd.ntmps13
    go_wp2_with fail
    have HC0 : Hid (Cells8 (w.alloc (.cells #[.int .u64 (b 0), .int .u64 (b 1), .int .u64 (b 2), .int .u64 (b 3), .int .u64 (b 4), .int .u64 (b 5), .int .u64 (b 6), .int .u64 (b 7)] 23)) w.heap.size 23 b) := Cells8.new' w _ _ _ rfl
    have HB0 : Hid (Below w.heap.size w (w.alloc (.cells #[.int .u64 (b 0), .int .u64 (b 1), .int .u64 (b 2), .int .u64 (b 3), .int .u64 (b 4), .int .u64 (b 5), .int .u64 (b 6), .int .u64 (b 7)] 23))) := (Below.refl _ _).alloc (Nat.le_refl _) _
    refine (impl_Find b m1 0 _ (HT.out.of HB0.out) HB.out hmr (by omega) (by omega)).mono ?_
    rintro e w1 ⟨r, q, hQ, rfl, hb1⟩
    have HB1 := Lib.hid (HB0.out.trans (hb1.mono HB0.out.size))
    have HC1 := Lib.hid (HC0.out.below hb1 HC0.out.lt)
    have HQ := Lib.hid hQ
    clear hQ
    clear hb1
    try clear f0 f1 f2 f3 f4 f5 f6 f7
    obtain ⟨f0, f1, f2, f3, f4, f5, f6, f7⟩ := HC1.out.facts
    go_wp2_with fail
    refine (impl_Find b n1 0 _ (HT.out.of HB1.out) HB.out hnr (by omega) (by omega)).mono ?_
    rintro e w2 ⟨r2, q2, hQ, rfl, hb2⟩
    have HB2 := Lib.hid (HB1.out.trans (hb2.mono HB1.out.size))
    have HC2 := Lib.hid (HC1.out.below hb2 HC1.out.lt)
    have HL := Lib.hid (HQ.out.less (m := n1) hnr.1 (by omega) hQ)
    clear hQ
    clear hb2
    try clear f0 f1 f2 f3 f4 f5 f6 f7
    obtain ⟨f0, f1, f2, f3, f4, f5, f6, f7⟩ := HC2.out.facts
    rcases HL.out with ⟨rfl, rfl⟩ | ⟨rfl, h2, h3⟩ | ⟨h1, h2, h3⟩
    · go_wp2
      go_ret
      exact ⟨rfl, HB2.out⟩
    · have d1 : decide ((512 : Int) ≤ (r2 : Int)) = false := by simp; omega
      have d3 : decide ((r2 : Int) < 512) = true := by simp; omega
      have ew : IntKind.i64.wrap (r2 : Int) = (r2 : Int) := IntWalk.i64_in _ ⟨by omega, by omega⟩
      have HF := Lib.hid h3
      clear h3
      go_wp2_with fail
      refine (pages_any w.heap.size 8 8 b (Nat.le_refl _) _ HC2.out.lt HB.out (fun j hj => HC2.out.cell hj)).mono ?_
      rintro e w8 ⟨v, rfl, hl, hb8⟩
      have HR := Lib.hid (hl.reads (pg_ne b))
      have HB8 := Lib.hid (HB2.out.trans (hb8.mono HB2.out.size))
      clear hl hb8
      go_wp2_with fail
      refine (free_pg _ v b r2 n1 _ (by omega) (by omega) HR.out).mono ?_
      rintro e w9 ⟨z, hz, rfl, rfl⟩
      obtain rfl := hz.2 HF.out
      clear hz
      go_wp2
      go_ret
      exact ⟨rfl, HB8.out⟩
    · have d0 : decide ((512 : Int) ≤ (r : Int)) = false := by simp; omega
      have d1 : decide ((512 : Int) ≤ (r2 : Int)) = false := by simp; omega
      have d2 : decide ((r2 : Int) ≤ (r : Int)) = true := by simp; omega
      have d3 : decide ((r2 : Int) < 512) = true := by simp; omega
      have ew : IntKind.i64.wrap (r2 : Int) = (r2 : Int) := IntWalk.i64_in _ ⟨by omega, by omega⟩
      have HF := Lib.hid h3
      clear h3
      go_wp2_with fail
      refine (pages_any w.heap.size 8 8 b (Nat.le_refl _) _ HC2.out.lt HB.out (fun j hj => HC2.out.cell hj)).mono ?_
      rintro e w8 ⟨v, rfl, hl, hb8⟩
      have HR := Lib.hid (hl.reads (pg_ne b))
      have HB8 := Lib.hid (HB2.out.trans (hb8.mono HB2.out.size))
      clear hl hb8
      go_wp2_with fail
      refine (free_pg _ v b r2 n1 _ (by omega) (by omega) HR.out).mono ?_
      rintro e w9 ⟨z, hz, rfl, rfl⟩
      obtain rfl := hz.2 HF.out
      clear hz
      go_wp2
      go_ret
      exact ⟨rfl, HB8.out⟩
  · have hd : decide ((n1 : Int) < (m1 : Int)) = false := by simp; omega
    go_enter Tryd.func13, Tryd.ntmps13
    go_wp2_with fail
    have HC0 : Hid (Cells8 (w.alloc (.cells #[.int .u64 (b 0), .int .u64 (b 1), .int .u64 (b 2), .int .u64 (b 3), .int .u64 (b 4), .int .u64 (b 5), .int .u64 (b 6), .int .u64 (b 7)] 23)) w.heap.size 23 b) := Cells8.new' w _ _ _ rfl
    have HB0 : Hid (Below w.heap.size w (w.alloc (.cells #[.int .u64 (b 0), .int .u64 (b 1), .int .u64 (b 2), .int .u64 (b 3), .int .u64 (b 4), .int .u64 (b 5), .int .u64 (b 6), .int .u64 (b 7)] 23))) := (Below.refl _ _).alloc (Nat.le_refl _) _
    refine (impl_Find b n1 0 _ (HT.out.of HB0.out) HB.out hnr (by omega) (by omega)).mono ?_
    rintro e w1 ⟨r, q, hQ, rfl, hb1⟩
    have HB1 := Lib.hid (HB0.out.trans (hb1.mono HB0.out.size))
    have HC1 := Lib.hid (HC0.out.below hb1 HC0.out.lt)
    have HQ := Lib.hid hQ
    clear hQ
    clear hb1
    try clear f0 f1 f2 f3 f4 f5 f6 f7
    obtain ⟨f0, f1, f2, f3, f4, f5, f6, f7⟩ := HC1.out.facts
    go_wp2_with fail
    refine (impl_Find b m1 0 _ (HT.out.of HB1.out) HB.out hmr (by omega) (by omega)).mono ?_
    rintro e w2 ⟨r2, q2, hQ, rfl, hb2⟩
    have HB2 := Lib.hid (HB1.out.trans (hb2.mono HB1.out.size))
    have HC2 := Lib.hid (HC1.out.below hb2 HC1.out.lt)
    have HL := Lib.hid (HQ.out.less (m := m1) hmr.1 (by omega) hQ)
    clear hQ
    clear hb2
    try clear f0 f1 f2 f3 f4 f5 f6 f7
    obtain ⟨f0, f1, f2, f3, f4, f5, f6, f7⟩ := HC2.out.facts
    rcases HL.out with ⟨rfl, rfl⟩ | ⟨rfl, h2, h3⟩ | ⟨h1, h2, h3⟩
    · go_wp2
      go_ret
      exact ⟨rfl, HB2.out⟩
    · have d1 : decide ((512 : Int) ≤ (r2 : Int)) = false := by simp; omega
      have d3 : decide ((r2 : Int) < 512) = true := by simp; omega
      have ew : IntKind.i64.wrap (r2 : Int) = (r2 : Int) := IntWalk.i64_in _ ⟨by omega, by omega⟩
      have HF := Lib.hid h3
      clear h3
      go_wp2_with fail
      refine (pages_any w.heap.size 8 8 b (Nat.le_refl _) _ HC2.out.lt HB.out (fun j hj => HC2.out.cell hj)).mono ?_
      rintro e w8 ⟨v, rfl, hl, hb8⟩
      have HR := Lib.hid (hl.reads (pg_ne b))
      have HB8 := Lib.hid (HB2.out.trans (hb8.mono HB2.out.size))
      clear hl hb8
      go_wp2_with fail
      refine (free_pg _ v b r2 m1 _ (by omega) (by omega) HR.out).mono ?_
      rintro e w9 ⟨z, hz, rfl, rfl⟩
      obtain rfl := hz.2 HF.out
      clear hz
      go_wp2
      go_ret
      exact ⟨rfl, HB8.out⟩
    · have d0 : decide ((512 : Int) ≤ (r : Int)) = false := by simp; omega
      have d1 : decide ((512 : Int) ≤ (r2 : Int)) = false := by simp; omega
      have d2 : decide ((r2 : Int) ≤ (r : Int)) = true := by simp; omega
      have d3 : decide ((r2 : Int) < 512) = true := by simp; omega
      have ew : IntKind.i64.wrap (r2 : Int) = (r2 : Int) := IntWalk.i64_in _ ⟨by omega, by omega⟩
      have HF := Lib.hid h3
      clear h3
      go_wp2_with fail
      refine (pages_any w.heap.size 8 8 b (Nat.le_refl _) _ HC2.out.lt HB.out (fun j hj => HC2.out.cell hj)).mono ?_
      rintro e w8 ⟨v, rfl, hl, hb8⟩
      have HR := Lib.hid (hl.reads (pg_ne b))
      have HB8 := Lib.hid (HB2.out.trans (hb8.mono HB2.out.size))
      clear hl hb8
      go_wp2_with fail
      refine (free_pg _ v b r2 m1 _ (by omega) (by omega) HR.out).mono ?_
      rintro e w9 ⟨z, hz, rfl, rfl⟩
      obtain rfl := hz.2 HF.out
      clear hz
      go_wp2
      go_ret
      exact ⟨rfl, HB8.out⟩

set_option maxRecDepth 100000 in
theorem lifted (os : Os) (started : os.Started) (H : Type) (enc : TypeId × Value → H) :
    ReturnsInHanded {} Tryd.checked os 13 .any (fun w args => (Rows.fnFindLessSpec.pre enc Tryd.prog Tryd.f13 [] false w args ∧ laidMetH Tryd.prog [("math/bits.deBruijn64tab", Rows.laid_math_bits_deBruijn64tab)] w) ∧ sizedMet enc Tryd.prog Tryd.f13 (OpenSpec.ofChange Rows.fnFindLessSpec) false w args)
      (Rows.fnFindLessSpec.post enc Tryd.prog Tryd.f13 false true false false) := by
  refine returnsInHanded_of_change_and (C := Tryd.checked) (X := fun w _ => laidMetH Tryd.prog [("math/bits.deBruijn64tab", Rows.laid_math_bits_deBruijn64tab)] w) (fun _ _ _ hh h => h.of_heap hh) own started (by kernel_rfl) Tryd.func13
    (ChangeSpec.witness_shaped (enc := enc) (C := Tryd.checked) (os := os) (X := fun w _ => laidMetH Tryd.prog [("math/bits.deBruijn64tab", Rows.laid_math_bits_deBruijn64tab)] w) false (World.doorLaid Tryd.prog 14 os) #[.agg #[.int .u64 0, .int .u64 0, .int .u64 0, .int .u64 0, .int .u64 0, .int .u64 0, .int .u64 0, .int .u64 0], .int .u16 0, .int .u16 0] 8 rfl (World.shaped_of_RefB (by kernel_rfl) (by kernel_rfl)) (by kernel_rfl) (by kernel_rfl) (by kernel_rfl) (door_met os _)) ?_
  intro W base args ds gs before hval0 hW _ _ hL _
  have hval : ∀ (j : Nat) t v, Tryd.f13.params[j]? = some t → args[j]? = some v → Value.okWide Tryd.prog W .any base t v := hval0
  have hW' := hW
  obtain ⟨p, q, hA0, hV, rfl, hfz, hnd⟩ := hW
  have hA : DataW.TrodAll enc Tryd.prog W 0 (fun _ => true) true Tryd.f13.params.toList args.toList ds p := hA0
  rw [Tryd.params13] at hA hval
  obtain ⟨v0, vs0, d0, ds0, p0, q0, hargs, rfl, rfl, h0, r0⟩ := trodAll_cons hA
  obtain ⟨v1, vs1, d1, ds1, p1, q1, rfl, rfl, rfl, h1, r1⟩ := trodAll_cons r0
  obtain ⟨v2, vs2, d2, ds2, p2, q2, rfl, rfl, rfl, h2, r2⟩ := trodAll_cons r1
  obtain ⟨rfl, rfl, rfl⟩ := trodAll_nil r2
  obtain rfl : args = #[v0, v1, v2] := by cases args; simp_all
  obtain ⟨rfl, rfl⟩ := trodVars_none hV
  have k0 := h0
  have lt0 : ∀ x ∈ p0, x.block < W.heap.size := by obtain ⟨m, hm⟩ := k0; exact DataW.trod_lt m _ _ _ hm
  obtain ⟨a0, w0, rfl⟩ := open_arr8 (hval 0 23 v0 rfl rfl) h0
  have k1 := h1
  have lt1 : ∀ x ∈ p1, x.block < W.heap.size := by obtain ⟨m, hm⟩ := k1; exact DataW.trod_lt m _ _ _ hm
  obtain ⟨n1, rfl, rfl, rfl, f1⟩ := open_int Tryd.underlying31 (hval 1 31 v1 rfl rfl) h1
  have b1 := bounds_u16 f1
  obtain ⟨a1, rfl⟩ := Int.eq_ofNat_of_zero_le b1.1
  have w1 : a1 < 65536 := by omega
  have k2 := h2
  have lt2 : ∀ x ∈ p2, x.block < W.heap.size := by obtain ⟨m, hm⟩ := k2; exact DataW.trod_lt m _ _ _ hm
  obtain ⟨n2, rfl, rfl, rfl, f2⟩ := open_int Tryd.underlying31 (hval 2 31 v2 rfl rfl) h2
  have b2 := bounds_u16 f2
  obtain ⟨a2, rfl⟩ := Int.eq_ofNat_of_zero_le b2.1
  have w2 : a2 < 65536 := by omega
  clear hA0 hval0
  refine (walk a0 a1 a2 W w0 w1 w2 (tab_of_laid hL)).mono fun e W' ⟨he, bel⟩ => ?_
  subst he
  exact ⟨_, rfl, _, _, _, [], _, [], hW', trodAll_mk1 (shut_bool Tryd.underlying4 _), (trodAll_cons_mk (Below.trod laidOut (by kernel_rfl) (of_decide_eq_true (by kernel_rfl)) k0 bel lt0) (trodAll_cons_mk (Below.trod laidOut (by kernel_rfl) (of_decide_eq_true (by kernel_rfl)) k1 bel lt1) (trodAll_cons_mk (Below.trod laidOut (by kernel_rfl) (of_decide_eq_true (by kernel_rfl)) k2 bel lt2) trodAll_mk0))), rfl, bel.frame _, fun h => by cases h⟩

theorem over1 : Tryd.pinned.checked.prog.funcNamed Rows.fnFindLessRow.func = some 13 := by kernel_rfl
theorem over2 : joinedFacts Tryd.pinned.checked.prog 13 Tryd.f13 Rows.fnFindLessSpec Rows.fnFindLessRow = true := by kernel_rfl
theorem over3 : Tryd.f13.isInstance Tryd.pinned.checked.prog Rows.fnFindLessRow.origin Rows.fnFindLessRow.targs := of_decide_eq_true (by kernel_rfl)
theorem over4 : Tryd.f13.isWrapper Tryd.pinned.checked.prog Rows.fnFindLessRow.wrapper Rows.fnFindLessRow.mainSum := by unfold Func.isWrapper; first | (rw [if_pos (by decide +kernel)]; kernel_rfl) | (rw [if_neg (by decide +kernel)]; exact ⟨rfl, rfl⟩)
theorem over : Rows.fnFindLessRow.holds Tryd.pinned (OpenSpec.ofChange Rows.fnFindLessSpec) :=
  OpenClaim.holds_of_wide 13 Tryd.f13 rfl rfl rfl rfl rfl rfl rfl ⟨rfl, rfl, rfl, rfl, rfl⟩ rfl rfl rfl rfl rfl over1 Tryd.func13 over2 over3 over4
    (fun os started H enc _ => lifted os started H enc)

theorem proved : Rows.FnFindLessCardSaid :=
  Claim7.holds_tied_plain_at .later [] [.data] true (true, "f2e7d653563900c7ead1574bf6931cc5751bd8d21ddad2109745e814cfc3dc11") false
    over (fun _ h => by cases h) (by kernel_rfl) (fun _ h => by cases h) fnFindLess_row_tie rfl ⟨rfl, rfl⟩ (by kernel_rfl) rfl
    (fun f fn hf hfn => by
      obtain rfl : f = 13 := Option.some.inj ((show Tryd.prog.funcNamed "loop.example/pub-pagebitmaps/laws.FnFindLess" = some 13 by kernel_rfl).symm.trans hf) |>.symm
      obtain rfl : fn = Tryd.f13 := (Option.some.inj (Tryd.func13.symm.trans hfn)).symm
      exact ⟨by kernel_rfl, fun j t ht => by
        rw [Tryd.params13] at ht
        have hm : t ∈ [23, 31, 31] := by simpa using Array.mem_of_getElem? ht
        have hall : ([23, 31, 31].all fun u => !Tryd.prog.wantsStandIn u) = true := by kernel_rfl
        exact (show Tryd.prog.wantsStandIn t = false by simpa using List.all_eq_true.1 hall t hm)⟩)
    (by kernel_rfl)
#print axioms proved
end Go.Proofs.YtkocngnpkfnblaaDoor.fnFindLess
