/- seats: P.
  FnExactGet: for every array of eight words and every i: Get tells page i mod 512, and Block64 the word that has it. No condition.
-/
import Derived.Test.YtkocngnpkfnblaaWF
import Derived.Test.YtkocngnpkfnblaaWQ
namespace Go.Proofs.Ytkocngnpkfnblaa.fnExactGet
open Go.Proofs.Ytkocngnpkfnblaa
open Go.ChangeShapes Go.WideShapes Go.ChangeAt Go.RowKit

set_option maxRecDepth 100000 in
set_option maxHeartbeats 800000 in
theorem walk (b : Nat → Nat) (i : Nat) (w : World) (hb : Words b) (hi : i < 65536) :
    Calls Try.prog 4 #[(.agg #[.int .u64 (b 0), .int .u64 (b 1), .int .u64 (b 2), .int .u64 (b 3), .int .u64 (b 4), .int .u64 (b 5), .int .u64 (b 6), .int .u64 (b 7)]), .int .u16 (i : Int)] w (RetTrue w) := by
  have h2 : i % 512 < 512 := by omega
  have HB := Lib.hid hb
  clear hb
  obtain ⟨q, hq⟩ : ∃ q : Nat, q = i % 512 / 64 := ⟨_, rfl⟩
  have hq8 : q < 8 := by omega
  have he : IntKind.u16.wrap (((i : Int) % 512).tdiv 64) = (q : Int) := by
    rw [Int.tdiv_eq_ediv_of_nonneg (by omega), IntWalk.u16_in _ (by omega)]; omega
  have HQ := Lib.hid hq
  clear hq
  have q1 : (0 : Int) ≤ (q : Int) := by omega
  have q2 : (q : Int) < 8 := by omega
  have ecv : IntKind.u64.wrap ((i : Int) % 512) = (i : Int) % 512 := IntWalk.u64_in _ (by omega)
  go_enter Try.func4, Try.ntmps4
  go_wp2_with fail
  have hc0 : Cells8 (w.alloc (.cells #[.int .u64 (b 0), .int .u64 (b 1), .int .u64 (b 2), .int .u64 (b 3), .int .u64 (b 4), .int .u64 (b 5), .int .u64 (b 6), .int .u64 (b 7)] 23)) w.heap.size 23 b := Cells8.new' w _ _ _ rfl
  refine (pages_any w.heap.size 8 8 b (Nat.le_refl _) _ (by simp) HB.out (fun j hj => hc0.cell hj)).mono ?_
  rintro e w1 ⟨v, rfl, hl, hbel⟩
  obtain ⟨g, cap, rfl, hg, h4, h5, h6⟩ := hl.reads (pg_ne b)
  have hc1 : Cells8 w1 w.heap.size 23 b := hc0.below hbel (by simp)
  have hb1 : Below w.heap.size w w1 := ((Below.refl _ _).alloc (Nat.le_refl _) _).trans (hbel.mono (by simp))
  have k1 := h6 (i % 512) (by rw [pg_length]; exact h2)
  rw [at_pg b h2] at k1
  have HB1 := Lib.hid hb1
  have HC1 := Lib.hid hc1
  unfold maxLen at h5
  rw [pg_length] at h4 ⊢
  clear hbel hb1 hc1 hl h6 hc0
  cases hbt : bt b (i % 512)
  all_goals
    rw [hbt] at k1
    have hbit : bit1 b (i % 512) = _ := congrArg (fun x : Bool => if x = true then 1 else 0) hbt
    simp only [Bool.false_eq_true, if_false, if_true] at hbit
    have HBIT := Lib.hid hbit
    clear hbt hbit
    go_wp2_with fail
    have tk1 : True := trivial
    go_region_held3 (fun w' => (w'.cell? ⟨w.heap.size, 0, none⟩ = some (.int .u64 (b 0)) ∧ w'.cell? ⟨w.heap.size, 1, none⟩ = some (.int .u64 (b 1)) ∧ w'.cell? ⟨w.heap.size, 2, none⟩ = some (.int .u64 (b 2)) ∧ w'.cell? ⟨w.heap.size, 3, none⟩ = some (.int .u64 (b 3)) ∧ w'.cell? ⟨w.heap.size, 4, none⟩ = some (.int .u64 (b 4)) ∧ w'.cell? ⟨w.heap.size, 5, none⟩ = some (.int .u64 (b 5)) ∧ w'.cell? ⟨w.heap.size, 6, none⟩ = some (.int .u64 (b 6)) ∧ w'.cell? ⟨w.heap.size, 7, none⟩ = some (.int .u64 (b 7)) ∧ Below (w.heap.size + 1) w1 w' ∧ w.heap.size < w'.heap.size) ∧ w'.cell? ⟨w.heap.size, q, none⟩ = some (.int .u64 (b q)))
      (first | assumption | exact ⟨first8 HC1.out, HC1.out.cell hq8⟩ | exact ⟨keep8 (by assumption) (And.left (by assumption)), cell8 (keep8 (by assumption) (And.left (by assumption))) q hq8⟩)
      (first
       | (have _t := tk1; go_at_call 17; refine (impl_Get b (i % 512) _ HB.out h2).mono ?_; rintro e w2 ⟨r, hr, rfl, hb2⟩; have hr2 := hr.trans HBIT.out; subst hr2; clear hr _t tk1; have tk2 : True := trivial)
       | (have _t := tk2; go_at_call 18; refine (impl_Block64 b (i % 512) _ HB.out h2).mono ?_; rintro e w3 ⟨r, hr, rfl, hb3⟩; rw [← HQ.out] at hr; subst hr; clear _t tk2; have tk3 : True := trivial))
    rename_i hS
    have hfin : Below w.heap.size w w3 := HB1.out.trans ((below8 hS.1).mono (by omega))
    have HF := Lib.hid hfin
    clear hS hb2 hb3 hfin
    go_wp2
    go_ret
    exact ⟨rfl, HF.out⟩

set_option maxRecDepth 100000 in
theorem lifted (os : Os) (started : os.Started) (H : Type) (enc : TypeId × Value → H) :
    ReturnsInHanded {} Try.checked os 4 .any (Rows.fnExactGetSpec.pre6 enc Try.prog Try.f4 Rows.fnExactGetRow.domain false) (Rows.fnExactGetSpec.post enc Try.prog Try.f4 false true false false) := by
  refine returnsInHanded_of_change (C := Try.checked) own started (by kernel_rfl) Try.func4
    (ChangeSpec.witness6 (enc := enc) (C := Try.checked) false ⟨#[], #[.agg #[.int .u64 0, .int .u64 0, .int .u64 0, .int .u64 0, .int .u64 0, .int .u64 0, .int .u64 0, .int .u64 0], .int .u16 0], []⟩ 8 (by kernel_rfl) (by kernel_rfl) (by kernel_rfl) (by kernel_rfl)) ?_
  intro W base args ds gs before hval0 hW hcnd _
  have hval : ∀ (j : Nat) t v, Try.f4.params[j]? = some t → args[j]? = some v → Value.okWide Try.prog W .any base t v := hval0
  have hW' := hW
  obtain ⟨p, q, hA0, hV, rfl, hfz, hnd⟩ := hW
  have hA : DataW.TrodAll enc Try.prog W 0 (fun _ => true) true Try.f4.params.toList args.toList ds p := hA0
  rw [Try.params4] at hA hval
  obtain ⟨v0, vs0, d0, ds0, p0, q0, hargs, rfl, rfl, h0, r0⟩ := trodAll_cons hA
  obtain ⟨v1, vs1, d1, ds1, p1, q1, rfl, rfl, rfl, h1, r1⟩ := trodAll_cons r0
  obtain ⟨rfl, rfl, rfl⟩ := trodAll_nil r1
  obtain rfl : args = #[v0, v1] := by cases args; simp_all
  obtain ⟨rfl, rfl⟩ := trodVars_none hV
  have k0 := h0
  have lt0 : ∀ x ∈ p0, x.block < W.heap.size := by obtain ⟨m, hm⟩ := k0; exact DataW.trod_lt m _ _ _ hm
  obtain ⟨a0, w0, rfl⟩ := open_arr8 (hval 0 23 v0 rfl rfl) h0
  have k1 := h1
  have lt1 : ∀ x ∈ p1, x.block < W.heap.size := by obtain ⟨m, hm⟩ := k1; exact DataW.trod_lt m _ _ _ hm
  obtain ⟨n1, rfl, rfl, rfl, f1⟩ := open_int Try.underlying24 (hval 1 24 v1 rfl rfl) h1
  have b1 := bounds_u16 f1
  obtain ⟨a1, rfl⟩ := Int.eq_ofNat_of_zero_le b1.1
  have w1 : a1 < 65536 := by omega
  clear hA0 hval0
  refine (walk a0 a1 W w0 w1).mono fun e W' ⟨he, bel⟩ => ?_
  subst he
  exact ⟨_, rfl, _, _, _, [], _, [], hW', trodAll_mk1 (shut_bool Try.underlying4 _), (trodAll_cons_mk (Below.trod laidOut (by kernel_rfl) (of_decide_eq_true (by kernel_rfl)) k0 bel lt0) (trodAll_cons_mk (Below.trod laidOut (by kernel_rfl) (of_decide_eq_true (by kernel_rfl)) k1 bel lt1) trodAll_mk0)), rfl, bel.frame _, fun h => by cases h⟩

theorem over : Rows.fnExactGetRow.holds Try.pinned (OpenSpec.ofChange Rows.fnExactGetSpec) :=
  OpenClaim.holds_of_wide 4 Try.f4 rfl rfl rfl rfl rfl rfl rfl ⟨rfl, rfl, rfl, rfl, rfl⟩ rfl rfl rfl rfl rfl (by kernel_rfl) Try.func4 (by kernel_rfl)
    (of_decide_eq_true (by kernel_rfl)) (by unfold Func.isWrapper; first | (rw [if_pos (by decide +kernel)]; kernel_rfl) | (rw [if_neg (by decide +kernel)]; exact ⟨rfl, rfl⟩))
    (fun os started H enc _ => lifted os started H enc)

theorem proved : Rows.FnExactGetSaid := over
#print axioms proved
end Go.Proofs.Ytkocngnpkfnblaa.fnExactGet
