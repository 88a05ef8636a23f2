/- seats: P.
  FnExactAllocPages: for every array of eight words, every i and every mask: AllocPages64 gives the words in which the word of page i mod 512 has the mask's bits besides, and nothing else is changed. No condition.
-/
import Derived.Test.YtkocngnpkfnblaaWF
import Derived.Test.YtkocngnpkfnblaaWQ
import Derived.Deep.DeepCutAuto
namespace Go.Proofs.Ytkocngnpkfnblaa.fnExactAllocPages
open Go.Proofs.Ytkocngnpkfnblaa
open Go.ChangeShapes Go.WideShapes Go.ChangeAt Go.RowKit

set_option maxRecDepth 100000 in
set_option maxHeartbeats 400000 in
theorem walk (b : Nat → Nat) (i v : Nat) (w : World) (hb : Words b) (hi : i < 65536) (hv : v < 18446744073709551616) :
    Calls Try.prog 3 #[(.agg #[.int .u64 (b 0), .int .u64 (b 1), .int .u64 (b 2), .int .u64 (b 3), .int .u64 (b 4), .int .u64 (b 5), .int .u64 (b 6), .int .u64 (b 7)]), .int .u16 (i : Int), .int .u64 (v : Int)] w (RetTrue w) := by
  have h2 : i % 512 < 512 := by omega
  have HY := Lib.hid (u64_or_nat (b (i % 512 / 64)) v (hb _ (by omega)) hv)
  have HB := Lib.hid hb
  clear hb
  obtain ⟨q, hq⟩ : ∃ q : Nat, q = i % 512 / 64 := ⟨_, rfl⟩
  have hq8 : q < 8 := by omega
  have he : IntKind.u16.wrap (((i : Int) % 512).tdiv 64) = (q : Int) := by
    rw [Int.tdiv_eq_ediv_of_nonneg (by omega), IntWalk.u16_in _ (by omega)]; omega
  rw [← hq] at HY
  have HQ := Lib.hid hq
  clear hq
  go_enter Try.func3, Try.ntmps3
  go_wp2_with fail
  refine (impl_AllocPages64 b (i % 512) v _ HB.out ⟨h2, hv⟩).mono ?_
  rintro e w1 ⟨c, hP, rfl, hbel⟩
  have hc1 : Cells8 w1 w.heap.size 23 b := (Cells8.new' w _ _ _ rfl).below hbel (by simp)
  have hz := hc1.lt
  have k1 := hc1.cell (j := q) hq8
  have k2 := hc1.frozen q
  have HC1 := Lib.hid hc1
  have HBEL := Lib.hid hbel
  have HP := Lib.hid hP
  clear hc1 hbel hP
  go_upto_region 4 with fail
  generalize hW : (w1.setCell ⟨w.heap.size, q, none⟩ (.int .u64 (bits .or .u64 (b q : Int) (v : Int)))).alloc (.cells #[.int .u64 (c 0), .int .u64 (c 1), .int .u64 (c 2), .int .u64 (c 3), .int .u64 (c 4), .int .u64 (c 5), .int .u64 (c 6), .int .u64 (c 7)] 23) = w3
  have hbelow : Below w.heap.size w w3 := by
    rw [← hW]
    exact ((((Below.refl _ _).alloc (Nat.le_refl _) _).trans (HBEL.out.mono (by simp))).setCell (Nat.le_refl _) _).alloc (by simp; omega) _
  have hP2 : c = upd b q (b q ||| v) := by
    have := HP.out
    unfold MaskTo at this
    rw [← HQ.out] at this
    exact this
  have hA : Cells8 w3 w.heap.size 23 c := by
    rw [← hW, HY.out, hP2]
    exact (HC1.out.set _ hq8).alloc _
  have hC : Cells8 w3 w1.heap.size 23 c := by
    rw [← hW]
    exact Cells8.new' _ _ _ _ (by simp [World.setCell])
  clear hW hP2
  obtain ⟨f0, f1, f2, f3, f4, f5, f6, f7⟩ := hA.facts
  obtain ⟨g0, g1, g2, g3, g4, g5, g6, g7⟩ := hC.facts
  have HBE := Lib.hid hbelow
  have heq := eql_same c
  clear hbelow hA hC
  go_wp2
  go_ret
  exact ⟨rfl, HBE.out⟩

set_option maxRecDepth 100000 in
theorem lifted (os : Os) (started : os.Started) (H : Type) (enc : TypeId × Value → H) :
    ReturnsInHanded {} Try.checked os 3 .any (Rows.fnExactAllocPagesSpec.pre6 enc Try.prog Try.f3 Rows.fnExactAllocPagesRow.domain false) (Rows.fnExactAllocPagesSpec.post enc Try.prog Try.f3 false true false false) := by
  refine returnsInHanded_of_change (C := Try.checked) own started (by kernel_rfl) Try.func3
    (ChangeSpec.witness6 (enc := enc) (C := Try.checked) false ⟨#[], #[.agg #[.int .u64 0, .int .u64 0, .int .u64 0, .int .u64 0, .int .u64 0, .int .u64 0, .int .u64 0, .int .u64 0], .int .u16 0, .int .u64 0], []⟩ 8 (by kernel_rfl) (by kernel_rfl) (by kernel_rfl) (by kernel_rfl)) ?_
  intro W base args ds gs before hval0 hW hcnd _
  have hval : ∀ (j : Nat) t v, Try.f3.params[j]? = some t → args[j]? = some v → Value.okWide Try.prog W .any base t v := hval0
  have hW' := hW
  obtain ⟨p, q, hA0, hV, rfl, hfz, hnd⟩ := hW
  have hA : DataW.TrodAll enc Try.prog W 0 (fun _ => true) true Try.f3.params.toList args.toList ds p := hA0
  rw [Try.params3] at hA hval
  obtain ⟨v0, vs0, d0, ds0, p0, q0, hargs, rfl, rfl, h0, r0⟩ := trodAll_cons hA
  obtain ⟨v1, vs1, d1, ds1, p1, q1, rfl, rfl, rfl, h1, r1⟩ := trodAll_cons r0
  obtain ⟨v2, vs2, d2, ds2, p2, q2, rfl, rfl, rfl, h2, r2⟩ := trodAll_cons r1
  obtain ⟨rfl, rfl, rfl⟩ := trodAll_nil r2
  obtain rfl : args = #[v0, v1, v2] := by cases args; simp_all
  obtain ⟨rfl, rfl⟩ := trodVars_none hV
  have k0 := h0
  have lt0 : ∀ x ∈ p0, x.block < W.heap.size := by obtain ⟨m, hm⟩ := k0; exact DataW.trod_lt m _ _ _ hm
  obtain ⟨a0, w0, rfl⟩ := open_arr8 (hval 0 23 v0 rfl rfl) h0
  have k1 := h1
  have lt1 : ∀ x ∈ p1, x.block < W.heap.size := by obtain ⟨m, hm⟩ := k1; exact DataW.trod_lt m _ _ _ hm
  obtain ⟨n1, rfl, rfl, rfl, f1⟩ := open_int Try.underlying24 (hval 1 24 v1 rfl rfl) h1
  have b1 := bounds_u16 f1
  obtain ⟨a1, rfl⟩ := Int.eq_ofNat_of_zero_le b1.1
  have w1 : a1 < 65536 := by omega
  have k2 := h2
  have lt2 : ∀ x ∈ p2, x.block < W.heap.size := by obtain ⟨m, hm⟩ := k2; exact DataW.trod_lt m _ _ _ hm
  obtain ⟨n2, rfl, rfl, rfl, f2⟩ := open_int Try.underlying22 (hval 2 22 v2 rfl rfl) h2
  have b2 := bounds_u64 f2
  obtain ⟨a2, rfl⟩ := Int.eq_ofNat_of_zero_le b2.1
  have w2 : a2 < 18446744073709551616 := by omega
  clear hA0 hval0
  refine (walk a0 a1 a2 W w0 w1 w2).mono fun e W' ⟨he, bel⟩ => ?_
  subst he
  exact ⟨_, rfl, _, _, _, [], _, [], hW', trodAll_mk1 (shut_bool Try.underlying4 _), (trodAll_cons_mk (Below.trod laidOut (by kernel_rfl) (of_decide_eq_true (by kernel_rfl)) k0 bel lt0) (trodAll_cons_mk (Below.trod laidOut (by kernel_rfl) (of_decide_eq_true (by kernel_rfl)) k1 bel lt1) (trodAll_cons_mk (Below.trod laidOut (by kernel_rfl) (of_decide_eq_true (by kernel_rfl)) k2 bel lt2) trodAll_mk0))), rfl, bel.frame _, fun h => by cases h⟩

theorem over : Rows.fnExactAllocPagesRow.holds Try.pinned (OpenSpec.ofChange Rows.fnExactAllocPagesSpec) :=
  OpenClaim.holds_of_wide 3 Try.f3 rfl rfl rfl rfl rfl rfl rfl ⟨rfl, rfl, rfl, rfl, rfl⟩ rfl rfl rfl rfl rfl (by kernel_rfl) Try.func3 (by kernel_rfl)
    (of_decide_eq_true (by kernel_rfl)) (by unfold Func.isWrapper; first | (rw [if_pos (by decide +kernel)]; kernel_rfl) | (rw [if_neg (by decide +kernel)]; exact ⟨rfl, rfl⟩))
    (fun os started H enc _ => lifted os started H enc)

theorem proved : Rows.FnExactAllocPagesSaid := over
#print axioms proved
end Go.Proofs.Ytkocngnpkfnblaa.fnExactAllocPages
