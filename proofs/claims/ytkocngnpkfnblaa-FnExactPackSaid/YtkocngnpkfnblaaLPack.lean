/- seats: P.
  FnExactPack: for every start, most and end taken mod 2^21, or all three 2^21: what is packed into a word comes back by Unpack and by Parts. No condition.
-/
import Derived.Test.YtkocngnpkfnblaaWF
import Derived.Test.YtkocngnpkfnblaaWV
namespace Go.Proofs.Ytkocngnpkfnblaa.fnExactPack
open Go.Proofs.Ytkocngnpkfnblaa
open Go.ChangeShapes Go.WideShapes Go.ChangeAt Go.RowKit

theorem pack_full (w : World) : Calls Try.prog 28 #[.agg #[.int .u64 2097152, .int .u64 2097152, .int .u64 2097152]] w fun en w' => en = .returned (.int .u64 (packN 2097152 2097152 2097152 : Nat)) ∧ Below w.heap.size w w' :=
  impl_Pack 2097152 2097152 2097152 w (.inr ⟨rfl, rfl, rfl⟩)
theorem unpack_full (w : World) : Calls Try.prog 29 #[.int .u64 (packN 2097152 2097152 2097152 : Nat)] w fun en w' => en = .returned (.agg #[.int .u64 2097152, .int .u64 2097152, .int .u64 2097152]) ∧ Below w.heap.size w w' :=
  impl_Unpack 2097152 2097152 2097152 w (.inr ⟨rfl, rfl, rfl⟩)
theorem parts_full (w : World) : Calls Try.prog 30 #[.int .u64 (packN 2097152 2097152 2097152 : Nat)] w fun en w' => en = .returned (.agg #[.int .u64 2097152, .int .u64 2097152, .int .u64 2097152]) ∧ Below w.heap.size w w' :=
  impl_Parts 2097152 2097152 2097152 w (.inr ⟨rfl, rfl, rfl⟩)

set_option maxRecDepth 100000 in
set_option maxHeartbeats 800000 in
theorem walk (s m e : Nat) (full : Bool) (w : World) (h1 : s < 4294967296) (h2 : m < 4294967296) (h3 : e < 4294967296) :
    Calls Try.prog 10 #[.int .u32 (s : Int), .int .u32 (m : Int), .int .u32 (e : Int), .bool full] w (RetTrue w) := by
  obtain ⟨x, hx⟩ : ∃ x : Nat, x = s % 2097152 := ⟨_, rfl⟩
  obtain ⟨y, hy⟩ : ∃ y : Nat, y = m % 2097152 := ⟨_, rfl⟩
  obtain ⟨z, hz⟩ : ∃ z : Nat, z = e % 2097152 := ⟨_, rfl⟩
  have ex : (s : Int) % 2097152 = (x : Int) := by omega
  have ey : (m : Int) % 2097152 = (y : Int) := by omega
  have ez : (e : Int) % 2097152 = (z : Int) := by omega
  have hs : Sums x y z := .inl ⟨by omega, by omega, by omega⟩
  have lx : x < 2097152 := by omega
  have ly : y < 2097152 := by omega
  have lz : z < 2097152 := by omega
  have HS := Lib.hid hs
  clear hs hx hy hz
  cases full
  · go_enter Try.func10, Try.ntmps10
    go_wp2_with fail
    refine (impl_Pack x y z _ HS.out).mono ?_
    rintro en w1 ⟨rfl, hb⟩
    have hc : Cells3 w1 w.heap.size 44 x y z := (Cells3.new' w w.heap.size 44 x y z rfl).below hb (by simp)
    have hbel : Below w.heap.size w w1 := ((Below.refl _ _).alloc (Nat.le_refl _) _).trans (hb.mono (by simp))
    have HC := Lib.hid hc
    have HBE := Lib.hid hbel
    clear hb hc hbel
    generalize hp : packN x y z = p at *
    have HP := Lib.hid hp
    clear hp
    go_wp2_with fail
    go_region_held3 (fun w' => (w'.cell? ⟨w.heap.size, 0, none⟩ = some (.int .u64 (x : Int)) ∧ w'.cell? ⟨w.heap.size, 1, none⟩ = some (.int .u64 (y : Int)) ∧ w'.cell? ⟨w.heap.size, 2, none⟩ = some (.int .u64 (z : Int)) ∧ Below (w.heap.size + 1) w1 w' ∧ w.heap.size < w'.heap.size))
      (first | assumption | exact first3 HC.out | exact keep3 (by assumption) (by assumption))
      (first
       | (go_at_call 29; rw [← HP.out]; refine (impl_Unpack x y z _ HS.out).mono ?_; rintro en w2 ⟨rfl, hb2⟩; rw [HP.out])
       | (go_at_call 30; rw [← HP.out]; refine (impl_Parts x y z _ HS.out).mono ?_; rintro en w3 ⟨rfl, hb3⟩; rw [HP.out]))
    rename_i hS
    have hfin : Below w.heap.size w w3 := HBE.out.trans ((below3 hS).mono (by omega))
    have HF := Lib.hid hfin
    clear hS hb2 hb3 hfin
    go_wp2
    go_ret
    exact ⟨rfl, HF.out⟩
  · clear ex ey ez
    clear HS lx ly lz x y z
    go_enter Try.func10, Try.ntmps10
    go_wp2_with fail
    refine (pack_full _).mono ?_
    rintro en w1 ⟨rfl, hb⟩
    have hc : Cells3 w1 w.heap.size 44 2097152 2097152 2097152 := (Cells3.new' w w.heap.size 44 2097152 2097152 2097152 rfl).below hb (by simp)
    have hbel : Below w.heap.size w w1 := ((Below.refl _ _).alloc (Nat.le_refl _) _).trans (hb.mono (by simp))
    have HC := Lib.hid hc
    have HBE := Lib.hid hbel
    clear hb hc hbel
    generalize hp : packN 2097152 2097152 2097152 = p at *
    have HP := Lib.hid hp
    clear hp
    go_wp2_with fail
    go_region_held3 (fun w' => (w'.cell? ⟨w.heap.size, 0, none⟩ = some (.int .u64 (2097152 : Int)) ∧ w'.cell? ⟨w.heap.size, 1, none⟩ = some (.int .u64 (2097152 : Int)) ∧ w'.cell? ⟨w.heap.size, 2, none⟩ = some (.int .u64 (2097152 : Int)) ∧ Below (w.heap.size + 1) w1 w' ∧ w.heap.size < w'.heap.size))
      (first | assumption | exact first3 HC.out | exact keep3 (x := 2097152) (y := 2097152) (z := 2097152) (by assumption) (by assumption))
      (first
       | (go_at_call 29; rw [← HP.out]; refine (unpack_full _).mono ?_; rintro en w2 ⟨rfl, hb2⟩; rw [HP.out])
       | (go_at_call 30; rw [← HP.out]; refine (parts_full _).mono ?_; rintro en w3 ⟨rfl, hb3⟩; rw [HP.out]))
    rename_i hS
    have hfin : Below w.heap.size w w3 := HBE.out.trans ((below3 (x := 2097152) (y := 2097152) (z := 2097152) hS).mono (by omega))
    have HF := Lib.hid hfin
    clear hS hb2 hb3 hfin
    go_wp2
    go_ret
    exact ⟨rfl, HF.out⟩

set_option maxRecDepth 100000 in
theorem lifted (os : Os) (started : os.Started) (H : Type) (enc : TypeId × Value → H) :
    ReturnsInHanded {} Try.checked os 10 .any (Rows.fnExactPackSpec.pre6 enc Try.prog Try.f10 Rows.fnExactPackRow.domain false) (Rows.fnExactPackSpec.post enc Try.prog Try.f10 false true false false) := by
  refine returnsInHanded_of_change (C := Try.checked) own started (by kernel_rfl) Try.func10
    (ChangeSpec.witness6 (enc := enc) (C := Try.checked) false ⟨#[], #[.int .u32 0, .int .u32 0, .int .u32 0, .bool false], []⟩ 8 (by kernel_rfl) (by kernel_rfl) (by kernel_rfl) (by kernel_rfl)) ?_
  intro W base args ds gs before hval0 hW hcnd _
  have hval : ∀ (j : Nat) t v, Try.f10.params[j]? = some t → args[j]? = some v → Value.okWide Try.prog W .any base t v := hval0
  have hW' := hW
  obtain ⟨p, q, hA0, hV, rfl, hfz, hnd⟩ := hW
  have hA : DataW.TrodAll enc Try.prog W 0 (fun _ => true) true Try.f10.params.toList args.toList ds p := hA0
  rw [Try.params10] at hA hval
  obtain ⟨v0, vs0, d0, ds0, p0, q0, hargs, rfl, rfl, h0, r0⟩ := trodAll_cons hA
  obtain ⟨v1, vs1, d1, ds1, p1, q1, rfl, rfl, rfl, h1, r1⟩ := trodAll_cons r0
  obtain ⟨v2, vs2, d2, ds2, p2, q2, rfl, rfl, rfl, h2, r2⟩ := trodAll_cons r1
  obtain ⟨v3, vs3, d3, ds3, p3, q3, rfl, rfl, rfl, h3, r3⟩ := trodAll_cons r2
  obtain ⟨rfl, rfl, rfl⟩ := trodAll_nil r3
  obtain rfl : args = #[v0, v1, v2, v3] := by cases args; simp_all
  obtain ⟨rfl, rfl⟩ := trodVars_none hV
  have k0 := h0
  have lt0 : ∀ x ∈ p0, x.block < W.heap.size := by obtain ⟨m, hm⟩ := k0; exact DataW.trod_lt m _ _ _ hm
  obtain ⟨n0, rfl, rfl, rfl, f0⟩ := open_int Try.underlying42 (hval 0 42 v0 rfl rfl) h0
  have b0 := bounds_u32 f0
  obtain ⟨a0, rfl⟩ := Int.eq_ofNat_of_zero_le b0.1
  have w0 : a0 < 4294967296 := by omega
  have k1 := h1
  have lt1 : ∀ x ∈ p1, x.block < W.heap.size := by obtain ⟨m, hm⟩ := k1; exact DataW.trod_lt m _ _ _ hm
  obtain ⟨n1, rfl, rfl, rfl, f1⟩ := open_int Try.underlying42 (hval 1 42 v1 rfl rfl) h1
  have b1 := bounds_u32 f1
  obtain ⟨a1, rfl⟩ := Int.eq_ofNat_of_zero_le b1.1
  have w1 : a1 < 4294967296 := by omega
  have k2 := h2
  have lt2 : ∀ x ∈ p2, x.block < W.heap.size := by obtain ⟨m, hm⟩ := k2; exact DataW.trod_lt m _ _ _ hm
  obtain ⟨n2, rfl, rfl, rfl, f2⟩ := open_int Try.underlying42 (hval 2 42 v2 rfl rfl) h2
  have b2 := bounds_u32 f2
  obtain ⟨a2, rfl⟩ := Int.eq_ofNat_of_zero_le b2.1
  have w2 : a2 < 4294967296 := by omega
  have k3 := h3
  have lt3 : ∀ x ∈ p3, x.block < W.heap.size := by obtain ⟨m, hm⟩ := k3; exact DataW.trod_lt m _ _ _ hm
  obtain ⟨a3, rfl, rfl, rfl⟩ := open_bool Try.underlying4 (hval 3 4 v3 rfl rfl) h3
  clear hA0 hval0
  refine (walk a0 a1 a2 a3 W w0 w1 w2).mono fun e W' ⟨he, bel⟩ => ?_
  subst he
  exact ⟨_, rfl, _, _, _, [], _, [], hW', trodAll_mk1 (shut_bool Try.underlying4 _), (trodAll_cons_mk (Below.trod laidOut (by kernel_rfl) (of_decide_eq_true (by kernel_rfl)) k0 bel lt0) (trodAll_cons_mk (Below.trod laidOut (by kernel_rfl) (of_decide_eq_true (by kernel_rfl)) k1 bel lt1) (trodAll_cons_mk (Below.trod laidOut (by kernel_rfl) (of_decide_eq_true (by kernel_rfl)) k2 bel lt2) (trodAll_cons_mk (Below.trod laidOut (by kernel_rfl) (of_decide_eq_true (by kernel_rfl)) k3 bel lt3) trodAll_mk0)))), rfl, bel.frame _, fun h => by cases h⟩

theorem over : Rows.fnExactPackRow.holds Try.pinned (OpenSpec.ofChange Rows.fnExactPackSpec) :=
  OpenClaim.holds_of_wide 10 Try.f10 rfl rfl rfl rfl rfl rfl rfl ⟨rfl, rfl, rfl, rfl, rfl⟩ rfl rfl rfl rfl rfl (by kernel_rfl) Try.func10 (by kernel_rfl)
    (of_decide_eq_true (by kernel_rfl)) (by unfold Func.isWrapper; first | (rw [if_pos (by decide +kernel)]; kernel_rfl) | (rw [if_neg (by decide +kernel)]; exact ⟨rfl, rfl⟩))
    (fun os started H enc _ => lifted os started H enc)

theorem proved : Rows.FnExactPackSaid := over
#print axioms proved
end Go.Proofs.Ytkocngnpkfnblaa.fnExactPack
