/- seats: D.
  FnExactBitRange: for every word c and every n that becomes one of 1 to 64: BitRange64 tells the first run of n bits 1, or 64 or above where there is none. No condition but the table that the row lists.
-/
import Derived.Test.YtkocngnpkfnblaaDoorWD
import Derived.Test.YtkocngnpkfnblaaDoorWJ
import Derived.Test.YtkocngnpkfnblaaDoorWL
namespace Go.Proofs.YtkocngnpkfnblaaDoor.fnExactBitRange
open Go.Proofs.YtkocngnpkfnblaaDoor
open Go.ChangeShapes Go.WideShapes Go.ChangeAt Go.RowKit

theorem free_bits {c y n k : Nat} (hc : c < 18446744073709551616) (hy : y = 18446744073709551615 - c) (hn : 1 ≤ n) :
    FreeAt (at_ (pg (fun _ => y) (64 * 1))) 64 k n ↔ ∀ j, j < n → c.testBit (k + j) = true := by
  have hb : ∀ i, i < 64 → at_ (pg (fun _ => y) (64 * 1)) i = !c.testBit i := fun i hi => by
    rw [at_pg _ (by omega)]
    unfold bt
    rw [Nat.mod_eq_of_lt hi, hy, tb_not hc]
    simp [hi]
  constructor
  · intro ⟨h1, h2⟩ j hj
    have := h2 (k + j) (by omega) (by omega)
    rw [hb _ (by omega)] at this
    simpa using this
  · intro h
    have hl : k + (n - 1) < 64 := by
      apply Nat.lt_of_not_le
      intro hle
      have := h (n - 1) (by omega)
      rw [tb_hi hc hle] at this
      cases this
    refine ⟨by omega, fun i a e => ?_⟩
    have := h (i - k) (by omega)
    rw [hb i (by omega)]
    rw [show k + (i - k) = i from by omega] at this
    rw [this]; rfl
theorem want {c y n r r0 : Nat} (hc : c < 18446744073709551616) (hy : y = 18446744073709551615 - c) (hn : 1 ≤ n) (h : BitRun c n r) (h0 : IsFirst (at_ (pg (fun _ => y) (64 * 1))) (pg (fun _ => y) (64 * 1)).length n r0) :
    (r0 = 64 ∧ r = 64) ∨ (r0 < 64 ∧ r = r0) := by
  rw [pg_length, Nat.mul_one] at h0
  have e := fun k => free_bits (k := k) hc hy hn
  rw [Nat.mul_one] at e
  have hf : IsFirst (at_ (pg (fun _ => y) 64)) 64 n r := by
    rcases h with ⟨h1, h2, h3⟩ | ⟨h1, h2⟩
    · exact .inl ⟨h1, (e r).2 h2, fun k hk hh => h3 k hk ((e k).1 hh)⟩
    · exact .inr ⟨h1, fun k hk hh => h2 k hk ((e k).1 hh)⟩
  obtain rfl := hf.unique h0
  have := h.le
  omega

set_option maxRecDepth 100000 in
set_option maxHeartbeats 800000 in
theorem walk (c n0 : Nat) (w : World) (hc : c < 18446744073709551616) (hn0 : n0 < 256) (hT : Tab w) :
    Calls Tryd.prog 7 #[.int .u64 (c : Int), .int .u8 (n0 : Int)] w (RetTrue w) := by
  have HT := Lib.hid hT
  clear hT
  obtain ⟨n, hn⟩ : ∃ n : Nat, n = 1 + n0 % 64 := ⟨_, rfl⟩
  have hnr : 1 ≤ n ∧ n ≤ 64 := by omega
  have e1 : (1 : Int) + (n0 : Int) % 64 = (n : Int) := by omega
  clear hn
  have e2 : IntKind.i64.wrap (n : Int) = (n : Int) := IntWalk.i64_in _ ⟨by omega, by omega⟩
  have e3 : IntKind.u64.wrap (n : Int) = (n : Int) := IntWalk.u64_in _ (by omega)
  obtain ⟨y, hy⟩ : ∃ y, y = 18446744073709551615 - c := ⟨_, rfl⟩
  have hnn : bits BinOp.xor IntKind.u64 (if IntKind.u64.signed = true then -1 else IntKind.u64.max) (c : Int) = (y : Int) := by rw [hy]; exact not_u64 hc
  have hy1 : y < 18446744073709551616 := by omega
  have HY := Lib.hid hy
  clear hy
  go_enter Tryd.func7, Tryd.ntmps7
  go_wp2_with fail
  refine (pages_any w.heap.size 1 1 (fun _ => y) (by decide) _ (by simp) (fun _ _ => hy1) (fun j hj => by
    obtain rfl : j = 0 := by omega
    rw [cell_of_row _ _ _ _ _ _ (heap_alloc_new w _)]
    rfl)).mono ?_
  rintro e w1 ⟨v, rfl, hl, hbel⟩
  have hb1 : Below w.heap.size w w1 := ((Below.refl _ _).alloc (Nat.le_refl _) _).trans (hbel.mono (by simp))
  have HB1 := Lib.hid hb1
  have HR := Lib.hid (hl.reads (fun h => by have := pg_length (fun _ => y) (64 * 1); rw [h] at this; cases this))
  clear hbel hb1 hl
  go_wp2_with fail
  refine (first_any _ v _ n _ (by rw [pg_length]; omega) (by omega) HR.out).mono ?_
  rintro e w2 ⟨r0, rfl, hr0, rfl⟩
  have HF := Lib.hid hr0
  clear hr0
  go_wp2_with fail
  refine (impl_BitRange64 c n _ (HT.out.of HB1.out) hnr hc).mono ?_
  rintro e w3 ⟨r, hr, rfl, rfl⟩
  have HW := Lib.hid (want hc HY.out hnr.1 hr HF.out)
  clear hr
  rcases HW.out with ⟨rfl, rfl⟩ | ⟨h1, rfl⟩
  · go_wp2
    go_ret
    exact ⟨rfl, HB1.out⟩
  · have hd : ((r : Int) == 64) = false := by simp; omega
    have ew : IntKind.i64.wrap (r : Int) = (r : Int) := IntWalk.i64_in _ ⟨by omega, by omega⟩
    go_wp2
    go_ret
    exact ⟨rfl, HB1.out⟩

set_option maxRecDepth 100000 in
theorem lifted (os : Os) (started : os.Started) (H : Type) (enc : TypeId × Value → H) :
    ReturnsInHanded {} Tryd.checked os 7 .any (fun w args => (Rows.fnExactBitRangeSpec.pre enc Tryd.prog Tryd.f7 [] false w args ∧ laidMetH Tryd.prog [("math/bits.deBruijn64tab", Rows.laid_math_bits_deBruijn64tab)] w) ∧ sizedMet enc Tryd.prog Tryd.f7 (OpenSpec.ofChange Rows.fnExactBitRangeSpec) false w args)
      (Rows.fnExactBitRangeSpec.post enc Tryd.prog Tryd.f7 false true false false) := by
  refine returnsInHanded_of_change_and (C := Tryd.checked) (X := fun w _ => laidMetH Tryd.prog [("math/bits.deBruijn64tab", Rows.laid_math_bits_deBruijn64tab)] w) (fun _ _ _ hh h => h.of_heap hh) own started (by kernel_rfl) Tryd.func7
    (ChangeSpec.witness_shaped (enc := enc) (C := Tryd.checked) (os := os) (X := fun w _ => laidMetH Tryd.prog [("math/bits.deBruijn64tab", Rows.laid_math_bits_deBruijn64tab)] w) false (World.doorLaid Tryd.prog 14 os) #[.int .u64 0, .int .u8 0] 8 rfl (World.shaped_of_RefB (by kernel_rfl) (by kernel_rfl)) (by kernel_rfl) (by kernel_rfl) (by kernel_rfl) (door_met os _)) ?_
  intro W base args ds gs before hval0 hW _ _ hL _
  have hval : ∀ (j : Nat) t v, Tryd.f7.params[j]? = some t → args[j]? = some v → Value.okWide Tryd.prog W .any base t v := hval0
  have hW' := hW
  obtain ⟨p, q, hA0, hV, rfl, hfz, hnd⟩ := hW
  have hA : DataW.TrodAll enc Tryd.prog W 0 (fun _ => true) true Tryd.f7.params.toList args.toList ds p := hA0
  rw [Tryd.params7] at hA hval
  obtain ⟨v0, vs0, d0, ds0, p0, q0, hargs, rfl, rfl, h0, r0⟩ := trodAll_cons hA
  obtain ⟨v1, vs1, d1, ds1, p1, q1, rfl, rfl, rfl, h1, r1⟩ := trodAll_cons r0
  obtain ⟨rfl, rfl, rfl⟩ := trodAll_nil r1
  obtain rfl : args = #[v0, v1] := by cases args; simp_all
  obtain ⟨rfl, rfl⟩ := trodVars_none hV
  have k0 := h0
  have lt0 : ∀ x ∈ p0, x.block < W.heap.size := by obtain ⟨m, hm⟩ := k0; exact DataW.trod_lt m _ _ _ hm
  obtain ⟨n0, rfl, rfl, rfl, f0⟩ := open_int Tryd.underlying22 (hval 0 22 v0 rfl rfl) h0
  have b0 := bounds_u64 f0
  obtain ⟨a0, rfl⟩ := Int.eq_ofNat_of_zero_le b0.1
  have w0 : a0 < 18446744073709551616 := by omega
  have k1 := h1
  have lt1 : ∀ x ∈ p1, x.block < W.heap.size := by obtain ⟨m, hm⟩ := k1; exact DataW.trod_lt m _ _ _ hm
  obtain ⟨n1, rfl, rfl, rfl, f1⟩ := open_int Tryd.underlying5 (hval 1 5 v1 rfl rfl) h1
  have b1 := bounds_u8 f1
  obtain ⟨a1, rfl⟩ := Int.eq_ofNat_of_zero_le b1.1
  have w1 : a1 < 256 := by omega
  clear hA0 hval0
  refine (walk a0 a1 W w0 w1 (tab_of_laid hL)).mono fun e W' ⟨he, bel⟩ => ?_
  subst he
  exact ⟨_, rfl, _, _, _, [], _, [], hW', trodAll_mk1 (shut_bool Tryd.underlying4 _), (trodAll_cons_mk (Below.trod laidOut (by kernel_rfl) (of_decide_eq_true (by kernel_rfl)) k0 bel lt0) (trodAll_cons_mk (Below.trod laidOut (by kernel_rfl) (of_decide_eq_true (by kernel_rfl)) k1 bel lt1) trodAll_mk0)), rfl, bel.frame _, fun h => by cases h⟩

theorem over1 : Tryd.pinned.checked.prog.funcNamed Rows.fnExactBitRangeRow.func = some 7 := by kernel_rfl
theorem over2 : joinedFacts Tryd.pinned.checked.prog 7 Tryd.f7 Rows.fnExactBitRangeSpec Rows.fnExactBitRangeRow = true := by kernel_rfl
theorem over3 : Tryd.f7.isInstance Tryd.pinned.checked.prog Rows.fnExactBitRangeRow.origin Rows.fnExactBitRangeRow.targs := of_decide_eq_true (by kernel_rfl)
theorem over4 : Tryd.f7.isWrapper Tryd.pinned.checked.prog Rows.fnExactBitRangeRow.wrapper Rows.fnExactBitRangeRow.mainSum := by unfold Func.isWrapper; first | (rw [if_pos (by decide +kernel)]; kernel_rfl) | (rw [if_neg (by decide +kernel)]; exact ⟨rfl, rfl⟩)
theorem over : Rows.fnExactBitRangeRow.holds Tryd.pinned (OpenSpec.ofChange Rows.fnExactBitRangeSpec) :=
  OpenClaim.holds_of_wide 7 Tryd.f7 rfl rfl rfl rfl rfl rfl rfl ⟨rfl, rfl, rfl, rfl, rfl⟩ rfl rfl rfl rfl rfl over1 Tryd.func7 over2 over3 over4
    (fun os started H enc _ => lifted os started H enc)

theorem proved : Rows.FnExactBitRangeCardSaid :=
  Claim7.holds_tied_plain_at .later [] [.data] true (true, "f2e7d653563900c7ead1574bf6931cc5751bd8d21ddad2109745e814cfc3dc11") false
    over (fun _ h => by cases h) (by kernel_rfl) (fun _ h => by cases h) fnExactBitRange_row_tie rfl ⟨rfl, rfl⟩ (by kernel_rfl) rfl
    (fun f fn hf hfn => by
      obtain rfl : f = 7 := Option.some.inj ((show Tryd.prog.funcNamed "loop.example/pub-pagebitmaps/laws.FnExactBitRange" = some 7 by kernel_rfl).symm.trans hf) |>.symm
      obtain rfl : fn = Tryd.f7 := (Option.some.inj (Tryd.func7.symm.trans hfn)).symm
      exact ⟨by kernel_rfl, fun j t ht => by
        rw [Tryd.params7] at ht
        have hm : t ∈ [22, 5] := by simpa using Array.mem_of_getElem? ht
        have hall : ([22, 5].all fun u => !Tryd.prog.wantsStandIn u) = true := by kernel_rfl
        exact (show Tryd.prog.wantsStandIn t = false by simpa using List.all_eq_true.1 hall t hm)⟩)
    (by kernel_rfl)
#print axioms proved
end Go.Proofs.YtkocngnpkfnblaaDoor.fnExactBitRange
