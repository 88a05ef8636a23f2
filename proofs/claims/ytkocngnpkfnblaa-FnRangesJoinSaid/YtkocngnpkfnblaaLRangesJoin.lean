/- seats: P.
  FnRangesJoin: for every array of eight words and every i, n and cut: setting (clearing) two ranges next to each other, in either order, gives what setting (clearing) the range of both gives; their counts add up; a set range counts whole. No condition.
-/
import Derived.Test.YtkocngnpkfnblaaWF
import Derived.Test.YtkocngnpkfnblaaWQ
namespace Go.Proofs.Ytkocngnpkfnblaa.fnRangesJoin
open Go.Proofs.Ytkocngnpkfnblaa
open Go.ChangeShapes Go.WideShapes Go.ChangeAt Go.RowKit

theorem join_set {b c d : Nat → Nat} {a k m : Nat} (hk : k ≤ m) (h1 : SetTo b a k c) (h2 : SetTo c (a + k) (m - k) d) : SetTo b a m d :=
  ⟨h2.1, fun j hj => by
    rw [h2.2 j hj, h1.2 j hj, Bool.or_assoc]
    congr 1
    rw [Bool.eq_iff_iff]; simp; omega⟩
theorem join_clear {b c d : Nat → Nat} {a k m : Nat} (hk : k ≤ m) (h1 : ClearTo b (a + k) (m - k) c) (h2 : ClearTo c a k d) : ClearTo b a m d :=
  ⟨h2.1, fun j hj => by
    rw [h2.2 j hj, h1.2 j hj, Bool.and_assoc]
    congr 1
    rw [Bool.eq_iff_iff]; simp; omega⟩
theorem cut_num (x m k : Nat) (hm : 2 ≤ m) (hml : m ≤ 512) (hk : k = 1 + x % (m - 1)) : IntKind.u64.wrap (1 + (x : Int) % ((m : Int) - 1)) = (k : Int) := by
  have h : x % (m - 1) < m - 1 := Nat.mod_lt _ (by omega)
  rw [show ((m : Int) - 1) = ((m - 1 : Nat) : Int) from by omega]
  rw [show (x : Int) % ((m - 1 : Nat) : Int) = ((x % (m - 1) : Nat) : Int) from rfl]
  rw [hk]
  generalize x % (m - 1) = q at *
  rw [IntKind.wrap_u64]
  omega
theorem cnt_set {b c : Nat → Nat} {a m : Nat} (h : SetTo b a m c) (hr : a + m ≤ 512) : cnt (bt c) a m = m :=
  cnt_all fun k hk => by
    rw [h.2 _ (by omega)]
    have : (decide (a ≤ a + k) && decide (a + k < a + m)) = true := by simp; omega
    rw [this, Bool.or_true]
theorem pop_sum {b : Nat → Nat} {a k m r1 r2 : Nat} (hm : m ≤ 512) (hk : k ≤ m) (h1 : r1 = cnt (bt b) a k) (h2 : r2 = cnt (bt b) (a + k) (m - k)) : IntKind.u64.wrap ((r1 : Int) + (r2 : Int)) = ((r1 + r2 : Nat) : Int) := by
  have b1 : r1 ≤ k := by rw [h1]; exact cnt_le _ _ _
  have b2 : r2 ≤ m - k := by rw [h2]; exact cnt_le _ _ _
  rw [IntWalk.u64_in _ (by omega)]; rfl
theorem cnt_sum {b : Nat → Nat} {a k m r1 r2 : Nat} (hk : k ≤ m) (h1 : r1 = cnt (bt b) a k) (h2 : r2 = cnt (bt b) (a + k) (m - k)) : cnt (bt b) a m = r1 + r2 := by
  rw [h1, h2, ← cnt_add]
  congr 1
  omega

set_option maxRecDepth 100000 in
set_option maxHeartbeats 1600000 in
theorem walk (b : Nat → Nat) (i n x : Nat) (w : World) (hb : Words b) (hi : i < 65536) (hn : n < 65536) (hx : x < 65536) :
    Calls Try.prog 13 #[(.agg #[.int .u64 (b 0), .int .u64 (b 1), .int .u64 (b 2), .int .u64 (b 3), .int .u64 (b 4), .int .u64 (b 5), .int .u64 (b 6), .int .u64 (b 7)]), .int .u16 (i : Int), .int .u16 (n : Int), .int .u16 (x : Int)] w (RetTrue w) := by
  have HB := Lib.hid hb
  clear hb
  go_enter Try.func13, Try.ntmps13
  go_wp2_with fail
  refine (place_any i n hi hn _).mono ?_
  rintro e w1 ⟨a, m, rfl, hr, hbel⟩
  have hc1 : Cells8 w1 w.heap.size 23 b := (Cells8.new' w _ _ _ rfl).below hbel (by simp)
  have hb1 : Below w.heap.size w w1 := ((Below.refl _ _).alloc (Nat.le_refl _) _).trans (hbel.mono (by simp))
  clear hbel
  have hr1 := hr.1
  have hr2 := hr.2
  have HR := Lib.hid hr
  clear hr
  by_cases hm : m = 1
  · subst hm
    obtain ⟨f0, f1, f2, f3, f4, f5, f6, f7⟩ := hc1.facts
    go_wp2_with fail
    refine (impl_SetRange b a 1 _ HB.out HR.out).mono ?_
    rintro e w2 ⟨c, hP, rfl, hbel⟩
    have hb2 : Below (w.heap.size + 1) w1 w2 := hbel.mono (by have := hc1.lt; omega)
    have hc2 := hc1.below hb2 (by omega)
    clear hbel
    obtain ⟨f0, f1, f2, f3, f4, f5, f6, f7⟩ := hc2.facts
    have hbit : bit1 c a = 1 := by
      unfold bit1
      rw [hP.2 a (by omega)]
      simp
    have HBIT := Lib.hid hbit
    clear hbit
    go_wp2_with fail
    refine (impl_Get c a _ hP.1 (by omega)).mono ?_
    rintro e w3 ⟨r, hQ, rfl, hbel⟩
    have hb3 : Below (w.heap.size + 1) w2 w3 := hbel.mono (by have := hc2.lt; omega)
    have hc3 := hc2.below hb3 (by omega)
    clear hbel
    obtain ⟨f0, f1, f2, f3, f4, f5, f6, f7⟩ := hc3.facts
    have hr3 : r = 1 := hQ.trans HBIT.out
    subst hr3
    clear hQ
    go_wp2
    go_ret
    exact ⟨rfl, hb1.trans (((hb2.trans hb3)).mono (by omega))⟩
  · have hm1 : ((m : Int) == 1) = false := by simp; omega
    obtain ⟨k, hk⟩ : ∃ k : Nat, k = 1 + x % (m - 1) := ⟨_, rfl⟩
    have hk1 : 1 ≤ k := by omega
    have hk2 : k < m := by
      have h : x % (m - 1) < m - 1 := Nat.mod_lt _ (by omega)
      omega
    have hcut := cut_num x m k (by omega) (by omega) hk
    clear hk
    have hpos : ¬ ((m : Int) - 1 = 0) := by omega
    have eak : IntKind.u64.wrap ((a : Int) + (k : Int)) = ((a + k : Nat) : Int) := by rw [IntWalk.u64_in _ (by omega)]; rfl
    have emk : IntKind.u64.wrap ((m : Int) - (k : Int)) = ((m - k : Nat) : Int) := by rw [IntWalk.u64_in _ (by omega)]; omega
    have HC1 := Lib.hid hc1
    have HB1 := Lib.hid hb1
    clear hc1 hb1
    go_wp2_with fail
    dsimp only [List.append]
    have tk1 : True := trivial
    go_region_held3 (fun w' => (w'.cell? ⟨w.heap.size, 0, none⟩ = some (.int .u64 (b 0)) ∧ w'.cell? ⟨w.heap.size, 1, none⟩ = some (.int .u64 (b 1)) ∧ w'.cell? ⟨w.heap.size, 2, none⟩ = some (.int .u64 (b 2)) ∧ w'.cell? ⟨w.heap.size, 3, none⟩ = some (.int .u64 (b 3)) ∧ w'.cell? ⟨w.heap.size, 4, none⟩ = some (.int .u64 (b 4)) ∧ w'.cell? ⟨w.heap.size, 5, none⟩ = some (.int .u64 (b 5)) ∧ w'.cell? ⟨w.heap.size, 6, none⟩ = some (.int .u64 (b 6)) ∧ w'.cell? ⟨w.heap.size, 7, none⟩ = some (.int .u64 (b 7)) ∧ Below (w.heap.size + 1) w1 w' ∧ w.heap.size < w'.heap.size))
      (first | assumption | exact first8 HC1.out | exact keep8 (by assumption) (by assumption))
      (first
       | (have _t := tk1; go_at_call 23; refine (impl_SetRange b a k _ HB.out ⟨hk1, by omega⟩).mono ?_; rintro e w2 ⟨c1, hP1, rfl, hb2⟩; clear _t tk1; have tk2 : True := trivial)
       | (have _t := tk2; go_at_call 23; refine (impl_SetRange c1 (a + k) (m - k) _ hP1.1 ⟨by omega, by omega⟩).mono ?_; rintro e w3 ⟨c2, hP2, rfl, hb3⟩; have hP3 : SetTo b a m c2 := join_set (by omega) hP1 hP2; clear _t tk2; have tk3 : True := trivial)
       | (have _t := tk3; go_at_call 23; refine (impl_SetRange_eq b a m c2 hP3 _ HB.out HR.out).mono ?_; rintro e w4 ⟨rfl, hb4⟩; have heq := eql_same c2; clear _t tk3; have tk4 : True := trivial)
       | (have _t := tk4; go_at_call 20; refine (impl_ClearRange b (a + k) (m - k) _ HB.out ⟨by omega, by omega⟩).mono ?_; rintro e w5 ⟨d1, hQ1, rfl, hb5⟩; clear _t tk4; have tk5 : True := trivial)
       | (have _t := tk5; go_at_call 20; refine (impl_ClearRange d1 a k _ hQ1.1 ⟨by omega, by omega⟩).mono ?_; rintro e w6 ⟨d2, hQ2, rfl, hb6⟩; have hQ3 : ClearTo b a m d2 := join_clear (by omega) hQ1 hQ2; clear _t tk5; have tk6 : True := trivial)
       | (have _t := tk6; go_at_call 20; refine (impl_ClearRange_eq b a m d2 hQ3 _ HB.out HR.out).mono ?_; rintro e w7 ⟨rfl, hb7⟩; have heq2 := eql_same d2; clear _t tk6; have tk7 : True := trivial)
       | (have _t := tk7; go_at_call 26; refine (impl_PopCount b a k _ HB.out ⟨hk1, by omega⟩).mono ?_; rintro e w8 ⟨r1, hs1, rfl, hb8⟩; have HS1 := Lib.hid hs1; clear hs1; clear _t tk7; have tk8 : True := trivial)
       | (have _t := tk8; go_at_call 26; refine (impl_PopCount b (a + k) (m - k) _ HB.out ⟨by omega, by omega⟩).mono ?_; rintro e w9 ⟨r2, hs2, rfl, hb9⟩; have HS2 := Lib.hid hs2; clear hs2; have es := pop_sum (by omega) (by omega) HS1.out HS2.out; clear _t tk8; have tk9 : True := trivial)
       | (have _t := tk9; go_at_call 26; refine (impl_PopCount b a m _ HB.out HR.out).mono ?_; rintro e w10 ⟨r3, hs3, rfl, hb10⟩; have hsum := hs3.trans (cnt_sum (by omega) HS1.out HS2.out); clear hs3; subst hsum; clear _t tk9; have tk10 : True := trivial)
       | (have _t := tk10; go_at_call 23; refine (impl_SetRange_eq b a m c2 hP3 _ HB.out HR.out).mono ?_; rintro e w11 ⟨rfl, hb11⟩; clear _t tk10; have tk11 : True := trivial)
       | (have _t := tk11; go_at_call 26; refine (impl_PopCount c2 a m _ hP3.1 HR.out).mono ?_; rintro e w12 ⟨r4, hs4, rfl, hb12⟩; have hall := hs4.trans (cnt_set hP3 hr2); clear hs4; subst hall; clear _t tk11; have tk12 : True := trivial))
    rename_i hS
    have hfin : Below w.heap.size w w12 := HB1.out.trans ((below8 hS).mono (by omega))
    have HF := Lib.hid hfin
    clear hS hb2 hb3 hb4 hb5 hb6 hb7 hb8 hb9 hb10 hb11 hb12 hP1 hP2 hP3 hQ1 hQ2 hQ3 hfin
    go_wp2
    go_ret
    exact ⟨rfl, HF.out⟩

set_option maxRecDepth 100000 in
theorem lifted (os : Os) (started : os.Started) (H : Type) (enc : TypeId × Value → H) :
    ReturnsInHanded {} Try.checked os 13 .any (Rows.fnRangesJoinSpec.pre6 enc Try.prog Try.f13 Rows.fnRangesJoinRow.domain false) (Rows.fnRangesJoinSpec.post enc Try.prog Try.f13 false true false false) := by
  refine returnsInHanded_of_change (C := Try.checked) own started (by kernel_rfl) Try.func13
    (ChangeSpec.witness6 (enc := enc) (C := Try.checked) false ⟨#[], #[.agg #[.int .u64 0, .int .u64 0, .int .u64 0, .int .u64 0, .int .u64 0, .int .u64 0, .int .u64 0, .int .u64 0], .int .u16 0, .int .u16 0, .int .u16 0], []⟩ 8 (by kernel_rfl) (by kernel_rfl) (by kernel_rfl) (by kernel_rfl)) ?_
  intro W base args ds gs before hval0 hW hcnd _
  have hval : ∀ (j : Nat) t v, Try.f13.params[j]? = some t → args[j]? = some v → Value.okWide Try.prog W .any base t v := hval0
  have hW' := hW
  obtain ⟨p, q, hA0, hV, rfl, hfz, hnd⟩ := hW
  have hA : DataW.TrodAll enc Try.prog W 0 (fun _ => true) true Try.f13.params.toList args.toList ds p := hA0
  rw [Try.params13] at hA hval
  obtain ⟨v0, vs0, d0, ds0, p0, q0, hargs, rfl, rfl, h0, r0⟩ := trodAll_cons hA
  obtain ⟨v1, vs1, d1, ds1, p1, q1, rfl, rfl, rfl, h1, r1⟩ := trodAll_cons r0
  obtain ⟨v2, vs2, d2, ds2, p2, q2, rfl, rfl, rfl, h2, r2⟩ := trodAll_cons r1
  obtain ⟨v3, vs3, d3, ds3, p3, q3, rfl, rfl, rfl, h3, r3⟩ := trodAll_cons r2
  obtain ⟨rfl, rfl, rfl⟩ := trodAll_nil r3
  obtain rfl : args = #[v0, v1, v2, v3] := by cases args; simp_all
  obtain ⟨rfl, rfl⟩ := trodVars_none hV
  have k0 := h0
  have lt0 : ∀ x ∈ p0, x.block < W.heap.size := by obtain ⟨m, hm⟩ := k0; exact DataW.trod_lt m _ _ _ hm
  obtain ⟨a0, w0, rfl⟩ := open_arr8 (hval 0 23 v0 rfl rfl) h0
  have k1 := h1
  have lt1 : ∀ x ∈ p1, x.block < W.heap.size := by obtain ⟨m, hm⟩ := k1; exact DataW.trod_lt m _ _ _ hm
  obtain ⟨n1, rfl, rfl, rfl, f1⟩ := open_int Try.underlying24 (hval 1 24 v1 rfl rfl) h1
  have b1 := bounds_u16 f1
  obtain ⟨a1, rfl⟩ := Int.eq_ofNat_of_zero_le b1.1
  have w1 : a1 < 65536 := by omega
  have k2 := h2
  have lt2 : ∀ x ∈ p2, x.block < W.heap.size := by obtain ⟨m, hm⟩ := k2; exact DataW.trod_lt m _ _ _ hm
  obtain ⟨n2, rfl, rfl, rfl, f2⟩ := open_int Try.underlying24 (hval 2 24 v2 rfl rfl) h2
  have b2 := bounds_u16 f2
  obtain ⟨a2, rfl⟩ := Int.eq_ofNat_of_zero_le b2.1
  have w2 : a2 < 65536 := by omega
  have k3 := h3
  have lt3 : ∀ x ∈ p3, x.block < W.heap.size := by obtain ⟨m, hm⟩ := k3; exact DataW.trod_lt m _ _ _ hm
  obtain ⟨n3, rfl, rfl, rfl, f3⟩ := open_int Try.underlying24 (hval 3 24 v3 rfl rfl) h3
  have b3 := bounds_u16 f3
  obtain ⟨a3, rfl⟩ := Int.eq_ofNat_of_zero_le b3.1
  have w3 : a3 < 65536 := by omega
  clear hA0 hval0
  refine (walk a0 a1 a2 a3 W w0 w1 w2 w3).mono fun e W' ⟨he, bel⟩ => ?_
  subst he
  exact ⟨_, rfl, _, _, _, [], _, [], hW', trodAll_mk1 (shut_bool Try.underlying4 _), (trodAll_cons_mk (Below.trod laidOut (by kernel_rfl) (of_decide_eq_true (by kernel_rfl)) k0 bel lt0) (trodAll_cons_mk (Below.trod laidOut (by kernel_rfl) (of_decide_eq_true (by kernel_rfl)) k1 bel lt1) (trodAll_cons_mk (Below.trod laidOut (by kernel_rfl) (of_decide_eq_true (by kernel_rfl)) k2 bel lt2) (trodAll_cons_mk (Below.trod laidOut (by kernel_rfl) (of_decide_eq_true (by kernel_rfl)) k3 bel lt3) trodAll_mk0)))), rfl, bel.frame _, fun h => by cases h⟩

theorem over : Rows.fnRangesJoinRow.holds Try.pinned (OpenSpec.ofChange Rows.fnRangesJoinSpec) :=
  OpenClaim.holds_of_wide 13 Try.f13 rfl rfl rfl rfl rfl rfl rfl ⟨rfl, rfl, rfl, rfl, rfl⟩ rfl rfl rfl rfl rfl (by kernel_rfl) Try.func13 (by kernel_rfl)
    (of_decide_eq_true (by kernel_rfl)) (by unfold Func.isWrapper; first | (rw [if_pos (by decide +kernel)]; kernel_rfl) | (rw [if_neg (by decide +kernel)]; exact ⟨rfl, rfl⟩))
    (fun os started H enc _ => lifted os started H enc)

theorem proved : Rows.FnRangesJoinSaid := over
#print axioms proved
end Go.Proofs.Ytkocngnpkfnblaa.fnRangesJoin
