/- seats: P.
  FnExactAllocRange: for every array of eight words, every i and n: putting the range that Place makes of i and n into use gives the words whose pages in the range are in use and all others are as they were. No condition.
-/
import Derived.Test.YtkocngnpkfnblaaWF
import Derived.Test.YtkocngnpkfnblaaWQ
namespace Go.Proofs.Ytkocngnpkfnblaa.fnExactAllocRange
open Go.Proofs.Ytkocngnpkfnblaa
open Go.ChangeShapes Go.WideShapes Go.ChangeAt Go.RowKit

set_option maxRecDepth 100000 in
set_option maxHeartbeats 400000 in
theorem walk (b : Nat → Nat) (i n : Nat) (w : World) (hb : Words b) (hi : i < 65536) (hn : n < 65536) :
    Calls Try.prog 8 #[(.agg #[.int .u64 (b 0), .int .u64 (b 1), .int .u64 (b 2), .int .u64 (b 3), .int .u64 (b 4), .int .u64 (b 5), .int .u64 (b 6), .int .u64 (b 7)]), .int .u16 (i : Int), .int .u16 (n : Int)] w (RetTrue w) := by
  have HB := Lib.hid hb
  clear hb
  go_enter Try.func8, Try.ntmps8
  go_wp2_with fail
  refine (place_any i n hi hn _).mono ?_
  rintro e w1 ⟨a, m, rfl, hr, hbel⟩
  have hc1 : Cells8 w1 w.heap.size 23 b := (Cells8.new' w _ _ _ rfl).below hbel (by simp)
  have hb1 : Below w.heap.size w w1 := ((Below.refl _ _).alloc (Nat.le_refl _) _).trans (hbel.mono (by simp))
  have HB1 := Lib.hid hb1
  have HC1 := Lib.hid hc1
  have HR := Lib.hid hr
  have hr1 := hr.1
  have hr2 := hr.2
  clear hbel hb1 hc1 hr
  go_wp2_with fail
  have ea : IntKind.i64.wrap (a : Int) = (a : Int) := IntWalk.i64_in _ ⟨by omega, by omega⟩
  have em : IntKind.i64.wrap (m : Int) = (m : Int) := IntWalk.i64_in _ ⟨by omega, by omega⟩
  go_region_held3 (fun w' => (w'.cell? ⟨w.heap.size, 0, none⟩ = some (.int .u64 (b 0)) ∧ w'.cell? ⟨w.heap.size, 1, none⟩ = some (.int .u64 (b 1)) ∧ w'.cell? ⟨w.heap.size, 2, none⟩ = some (.int .u64 (b 2)) ∧ w'.cell? ⟨w.heap.size, 3, none⟩ = some (.int .u64 (b 3)) ∧ w'.cell? ⟨w.heap.size, 4, none⟩ = some (.int .u64 (b 4)) ∧ w'.cell? ⟨w.heap.size, 5, none⟩ = some (.int .u64 (b 5)) ∧ w'.cell? ⟨w.heap.size, 6, none⟩ = some (.int .u64 (b 6)) ∧ w'.cell? ⟨w.heap.size, 7, none⟩ = some (.int .u64 (b 7)) ∧ Below (w.heap.size + 1) w1 w' ∧ w.heap.size < w'.heap.size))
    (first | exact first8 HC1.out | exact keep8 (by assumption) (by assumption))
    (first
     | (go_at_call 25; refine (impl_AllocRange b a m _ HB.out HR.out).mono ?_; rintro e w2 ⟨c, hP, rfl, hb2⟩)
     | (go_at_call 16; refine (pages_box _ HB.out (by assumption)).mono ?_; rintro e w3 ⟨v, rfl, hl3, hb3⟩)
     | (go_at_call 22; refine (put_any _ v _ a m true _ (by rw [pg_length]; omega) (by rw [pg_length]; omega) (pg_ne b) (Nat.le_refl _) (hl3.reads (pg_ne b))).mono ?_; rintro e w4 ⟨v', rfl, hl4, hb4⟩)
     | (go_at_call 21; refine (words_eq _ c hP.1 (set_put hP HR.out.2) (by rw [putTo_length, pg_length]) (Nat.le_refl _) (hl4.reads (fun h => pg_ne b (by have := putTo_length (pg b 512) a true m; rw [h, pg_length] at this; cases this)))).mono ?_; rintro e w5 ⟨rfl, hb5⟩; have heq := eql_same c))
  rename_i hS
  have hfin : Below w.heap.size w w5 := HB1.out.trans ((below8 hS).mono (by omega))
  have HF := Lib.hid hfin
  clear hS hb2 hb3 hb4 hb5 hl3 hl4 hP hfin
  go_wp2
  go_ret
  exact ⟨rfl, HF.out⟩

set_option maxRecDepth 100000 in
theorem lifted (os : Os) (started : os.Started) (H : Type) (enc : TypeId × Value → H) :
    ReturnsInHanded {} Try.checked os 8 .any (Rows.fnExactAllocRangeSpec.pre6 enc Try.prog Try.f8 Rows.fnExactAllocRangeRow.domain false) (Rows.fnExactAllocRangeSpec.post enc Try.prog Try.f8 false true false false) := by
  refine returnsInHanded_of_change (C := Try.checked) own started (by kernel_rfl) Try.func8
    (ChangeSpec.witness6 (enc := enc) (C := Try.checked) false ⟨#[], #[.agg #[.int .u64 0, .int .u64 0, .int .u64 0, .int .u64 0, .int .u64 0, .int .u64 0, .int .u64 0, .int .u64 0], .int .u16 0, .int .u16 0], []⟩ 8 (by kernel_rfl) (by kernel_rfl) (by kernel_rfl) (by kernel_rfl)) ?_
  intro W base args ds gs before hval0 hW hcnd _
  have hval : ∀ (j : Nat) t v, Try.f8.params[j]? = some t → args[j]? = some v → Value.okWide Try.prog W .any base t v := hval0
  have hW' := hW
  obtain ⟨p, q, hA0, hV, rfl, hfz, hnd⟩ := hW
  have hA : DataW.TrodAll enc Try.prog W 0 (fun _ => true) true Try.f8.params.toList args.toList ds p := hA0
  rw [Try.params8] at hA hval
  obtain ⟨v0, vs0, d0, ds0, p0, q0, hargs, rfl, rfl, h0, r0⟩ := trodAll_cons hA
  obtain ⟨v1, vs1, d1, ds1, p1, q1, rfl, rfl, rfl, h1, r1⟩ := trodAll_cons r0
  obtain ⟨v2, vs2, d2, ds2, p2, q2, rfl, rfl, rfl, h2, r2⟩ := trodAll_cons r1
  obtain ⟨rfl, rfl, rfl⟩ := trodAll_nil r2
  obtain rfl : args = #[v0, v1, v2] := by cases args; simp_all
  obtain ⟨rfl, rfl⟩ := trodVars_none hV
  have k0 := h0
  have lt0 : ∀ x ∈ p0, x.block < W.heap.size := by obtain ⟨m, hm⟩ := k0; exact DataW.trod_lt m _ _ _ hm
  obtain ⟨a0, w0, rfl⟩ := open_arr8 (hval 0 23 v0 rfl rfl) h0
  have k1 := h1
  have lt1 : ∀ x ∈ p1, x.block < W.heap.size := by obtain ⟨m, hm⟩ := k1; exact DataW.trod_lt m _ _ _ hm
  obtain ⟨n1, rfl, rfl, rfl, f1⟩ := open_int Try.underlying24 (hval 1 24 v1 rfl rfl) h1
  have b1 := bounds_u16 f1
  obtain ⟨a1, rfl⟩ := Int.eq_ofNat_of_zero_le b1.1
  have w1 : a1 < 65536 := by omega
  have k2 := h2
  have lt2 : ∀ x ∈ p2, x.block < W.heap.size := by obtain ⟨m, hm⟩ := k2; exact DataW.trod_lt m _ _ _ hm
  obtain ⟨n2, rfl, rfl, rfl, f2⟩ := open_int Try.underlying24 (hval 2 24 v2 rfl rfl) h2
  have b2 := bounds_u16 f2
  obtain ⟨a2, rfl⟩ := Int.eq_ofNat_of_zero_le b2.1
  have w2 : a2 < 65536 := by omega
  clear hA0 hval0
  refine (walk a0 a1 a2 W w0 w1 w2).mono fun e W' ⟨he, bel⟩ => ?_
  subst he
  exact ⟨_, rfl, _, _, _, [], _, [], hW', trodAll_mk1 (shut_bool Try.underlying4 _), (trodAll_cons_mk (Below.trod laidOut (by kernel_rfl) (of_decide_eq_true (by kernel_rfl)) k0 bel lt0) (trodAll_cons_mk (Below.trod laidOut (by kernel_rfl) (of_decide_eq_true (by kernel_rfl)) k1 bel lt1) (trodAll_cons_mk (Below.trod laidOut (by kernel_rfl) (of_decide_eq_true (by kernel_rfl)) k2 bel lt2) trodAll_mk0))), rfl, bel.frame _, fun h => by cases h⟩

theorem over : Rows.fnExactAllocRangeRow.holds Try.pinned (OpenSpec.ofChange Rows.fnExactAllocRangeSpec) :=
  OpenClaim.holds_of_wide 8 Try.f8 rfl rfl rfl rfl rfl rfl rfl ⟨rfl, rfl, rfl, rfl, rfl⟩ rfl rfl rfl rfl rfl (by kernel_rfl) Try.func8 (by kernel_rfl)
    (of_decide_eq_true (by kernel_rfl)) (by unfold Func.isWrapper; first | (rw [if_pos (by decide +kernel)]; kernel_rfl) | (rw [if_neg (by decide +kernel)]; exact ⟨rfl, rfl⟩))
    (fun os started H enc _ => lifted os started H enc)

theorem proved : Rows.FnExactAllocRangeSaid := over
#print axioms proved
end Go.Proofs.Ytkocngnpkfnblaa.fnExactAllocRange
