/- seats: P D. The walks of clearRange: what it has written: the bits of the range are cleared, no other bit is turned. -/
import Derived.Test.YtkocngnpkfnblaaWS
import Derived.Lib.SliceRun
namespace Go.Proofs.Ytkocngnpkfnblaa
open Go.RowKit

theorem zeroU64 (w : World) : (zeroValue 22).run Try.prog w = .ok (.int .u64 0) w := by kernel_rfl

set_option maxRecDepth 100000 in
set_option maxHeartbeats 400000 in
theorem clearRange_one (g t : Nat) (b : Nat → Nat) (i : Nat) (hi : i < 512) (w : World) (hb : Words b) (hc : Cells8 w g t b) :
    Calls Try.prog 50 #[.pointer (some ⟨g, 0, none⟩), .int .u64 (i : Int), .int .u64 1] w (Wrote w g t (ClearTo b i 1)) := by
  have h1 := hc.cell (j := i / 64) (by omega)
  have h2 := hc.frozen (i / 64)
  obtain ⟨y, hy, hy1, hy2⟩ := andNot_mask (hb (i / 64) (by omega)) (mask_one (i % 64) (by omega))
  have HY := Lib.hid hy
  have HC := Lib.hid hc
  have HB := Lib.hid hb
  have HT := Lib.hid hy2
  clear hy hc hb hy2
  go_enter Try.func50, Try.ntmps50
  go_wp2
  go_region
  go_wp2
  go_end0
  go_wp2
  go_end0
  refine ⟨rfl, upd b (i / 64) y, clearTo_one HB.out (Nat.le_refl _) rfl hy1 fun k hk => ?_, ?_, ?_⟩
  · rw [HT.out k hk]
    congr 2
    rw [Bool.eq_iff_iff]; simp; omega
  · rw [HY.out]; exact (HC.out.set y (by omega)).drew
  · exact only_drew (only_setCell (only_refl _ _) (.inl rfl) _)

set_option maxRecDepth 100000 in
set_option maxHeartbeats 400000 in
theorem clearRange_same (g t : Nat) (b : Nat → Nat) (i n : Nat) (hn : 2 ≤ n) (hi : i + n ≤ 512) (hs : i / 64 = (i + n - 1) / 64) (w : World) (hb : Words b) (hc : Cells8 w g t b) :
    Calls Try.prog 50 #[.pointer (some ⟨g, 0, none⟩), .int .u64 (i : Int), .int .u64 (n : Int)] w (Wrote w g t (ClearTo b i n)) := by
  have h1 := hc.cell (j := i / 64) (by omega)
  have h2 := hc.frozen (i / 64)
  have h4 : ((n : Int) == 1) = false := by simp; omega
  have h5 : ((i : Int) / 64 == ((i : Int) + (n : Int) - 1) / 64) = true := by simp; omega
  have h6 : n ≤ 64 := by omega
  obtain ⟨y, hy, hy1, hy2⟩ := andNot_mask (hb (i / 64) (by omega)) (mask_mid n (i % 64) h6)
  have HY := Lib.hid hy
  have HC := Lib.hid hc
  have HB := Lib.hid hb
  have HT := Lib.hid hy2
  have HS := Lib.hid hs
  clear hy hc hb hy2 hs
  go_enter Try.func50, Try.ntmps50
  go_wp2
  go_region
  go_wp2
  go_end0
  refine ⟨rfl, upd b (i / 64) y, clearTo_one HB.out (by omega) HS.out hy1 HT.out, ?_, ?_⟩
  · rw [HY.out]; exact (HC.out.set y (by omega)).drew
  · exact only_drew (only_setCell (only_refl _ _) (.inl rfl) _)

theorem setCells_snoc (g : Nat) (v : Value) : ∀ (vs : List Value) (o : Nat) (w : World), w.setCells g o (vs ++ [v]) = (w.setCells g o vs).setCell ⟨g, o + vs.length, none⟩ v
  | [], o, w => by simp [World.setCells]
  | x :: r, o, w => by
    simp only [List.cons_append, World.setCells, List.length_cons]
    rw [setCells_snoc g v r (o + 1), show o + 1 + r.length = o + (r.length + 1) from by omega]

theorem cells_setCells (b : Nat → Nat) (p : Nat) : ∀ (L : Nat) (w : World) (g t : Nat) (c : Nat → Nat), p + 1 + L ≤ 8 → Cells8 w g t c → ∃ c', Cells8 (w.setCells g (p + 1) (List.replicate L (.int .u64 0))) g t c' ∧
    w.grownBy (w.setCells g (p + 1) (List.replicate L (.int .u64 0))) (some g) ∧ (∀ y, Between b p y 0 (p + 1) c → Between b p y 0 (p + 1 + L) c')
  | 0, w, g, t, c, _, h => ⟨c, h, only_refl _ _, fun _ h => h⟩
  | L + 1, w, g, t, c, hL, h => by
    obtain ⟨c', h1, h2, h3⟩ := cells_setCells b p L w g t c (by omega) h
    have e : w.setCells g (p + 1) (List.replicate (L + 1) (.int .u64 0)) = (w.setCells g (p + 1) (List.replicate L (.int .u64 0))).setCell ⟨g, p + 1 + L, none⟩ (.int .u64 0) := by
      rw [List.replicate_succ']
      have := setCells_snoc g (.int .u64 0) (List.replicate L (Value.int .u64 0)) (p + 1) w
      rwa [List.length_replicate] at this
    rw [e]
    refine ⟨upd c' (p + 1 + L) 0, h1.set 0 (by omega), only_setCell h2 (.inl rfl) _, fun y hy => ?_⟩
    exact (h3 y hy).step (by omega) (by decide)

theorem arrLen70 : Try.prog.arrayLen 70 = 8 := by kernel_rfl

set_option maxRecDepth 100000 in
set_option maxHeartbeats 800000 in
theorem clearRange_wide (g t : Nat) (b : Nat → Nat) (i n : Nat) (hn : 2 ≤ n) (hi : i + n ≤ 512) (hs : i / 64 < (i + n - 1) / 64) (w : World) (hb : Words b) (hc : Cells8 w g t b) :
    Calls Try.prog 50 #[.pointer (some ⟨g, 0, none⟩), .int .u64 (i : Int), .int .u64 (n : Int)] w (Wrote w g t (ClearTo b i n)) := by
  have h1 := hc.cell (j := i / 64) (by omega)
  have h1' := hc.cell (j := (i + n - 1) / 64) (by omega)
  have h2 := hc.frozen (i / 64)
  have h4 : ((n : Int) == 1) = false := by simp; omega
  have h5 : ((i : Int) / 64 == ((i : Int) + (n : Int) - 1) / 64) = false := by simp; omega
  obtain ⟨y, hy, hy1, hy2⟩ := andNot_mask (hb (i / 64) (by omega)) (mask_lead (i % 64))
  have hsl : ∀ W, (Instr.sliceAt 70 (.pointer (some ⟨g, 0, none⟩)) (some (.int .u64 ((i : Int) / 64 + 1))) (some (.int .u64 (((i : Int) + (n : Int) - 1) / 64))) none).run Try.prog W =
      .ok (.slice (some ⟨g, i / 64 + 1, none⟩) ((i + n - 1) / 64 - (i / 64 + 1)) (7 - i / 64)) W := fun W => by
    rw [run_sliceAt_array_lh W 70 ⟨g, 0, none⟩ (by kernel_rfl) .u64 .u64 ((i : Int) / 64 + 1) (((i : Int) + (n : Int) - 1) / 64) (by omega) (by omega) (by rw [arrLen70]; omega)]
    rw [arrLen70]
    have e1 : ((i : Int) / 64 + 1).toNat = i / 64 + 1 := by omega
    have e2 : (((i : Int) + (n : Int) - 1) / 64).toNat = (i + n - 1) / 64 := by omega
    have e3 : ¬ (8 = i / 64 + 1) := by omega
    rw [e1, e2]
    simp [go_sem, slicedAt, e3, Addr.add]
  have HY := Lib.hid hy
  have HC := Lib.hid hc
  have HB := Lib.hid hb
  have HT := Lib.hid hy2
  clear hy hc hb hy2
  go_enter Try.func50, Try.ntmps50
  go_wp2
  go_region
  generalize hW : (w.setCell ⟨g, i / 64, none⟩ (.int .u64 (bits .andNot .u64 (b (i / 64) : Int) (IntKind.u64.wrap (18446744073709551615 * 2 ^ (i % 64)))))).drew = w1
  have hc1 : Cells8 w1 g t (upd b (i / 64) y) := by rw [← hW, HY.out]; exact (HC.out.set y (by omega)).drew
  have hg1 : w.grownBy w1 (some g) := by rw [← hW]; exact only_drew (only_setCell (only_refl _ _) (.inl rfl) _)
  clear hW
  obtain ⟨c, hc2, hg2, hbt⟩ := cells_setCells b (i / 64) ((i + n - 1) / 64 - (i / 64 + 1)) w1 g t _ (by omega) hc1
  have hcl : ∀ ty, (Builtin.clear_ #[30] ty #[.slice (some ⟨g, i / 64 + 1, none⟩) ((i + n - 1) / 64 - (i / 64 + 1)) (7 - i / 64)]).run Try.prog w1 = .ok (.tuple #[]) (w1.setCells g (i / 64 + 1) (List.replicate ((i + n - 1) / 64 - (i / 64 + 1)) (.int .u64 0))) := fun ty => by
    by_cases h0 : (i + n - 1) / 64 - (i / 64 + 1) = 0
    · rw [h0]
      simp [Builtin.clear_, run_underlying Try.underlying30, World.setCells]
    · exact Lib.run_clear_slice w1 30 22 ty (.int .u64 0) Try.underlying30 zeroU64 rfl rfl g (i / 64 + 1) _ _ (by omega)
        (fun j hj => by rw [hc1.cell (j := i / 64 + 1 + j) (by omega)]; rfl) (fun j hj => hc1.frozen _)
  have HBT := Lib.hid (hbt y (Between.start HB.out hy1))
  have HC1 := Lib.hid hc1
  have HG1 := Lib.hid hg1
  have HC2 := Lib.hid hc2
  have HG2 := Lib.hid hg2
  clear hbt hc1 hg1 hc2 hg2
  generalize hW2 : w1.setCells g (i / 64 + 1) (List.replicate ((i + n - 1) / 64 - (i / 64 + 1)) (.int .u64 0)) = w2 at *
  clear hW2
  have k3 := HC2.out.cell (j := (i + n - 1) / 64) (by omega)
  have k4 := HC2.out.frozen ((i + n - 1) / 64)
  obtain ⟨z, hz, hz1, hz2⟩ := andNot_mask (HBT.out.1 ((i + n - 1) / 64) (by omega)) (mask_tail ((i + n - 1) % 64 + 1) (by omega))
  have HZ := Lib.hid hz
  have HTZ := Lib.hid hz2
  clear hz hz2
  go_wp2_with (simp only [hcl])

  go_region
  go_wp2
  go_end0
  have HB2 := HBT.out
  rw [show i / 64 + 1 + ((i + n - 1) / 64 - (i / 64 + 1)) = (i + n - 1) / 64 from by omega] at HB2
  have hcz : c ((i + n - 1) / 64) = b ((i + n - 1) / 64) := HB2.2.2.2 _ (by omega) (by omega)
  refine ⟨rfl, upd c ((i + n - 1) / 64) z, clearTo_wide (by omega) hi hs HB2 hz1 HT.out (fun k hk => by rw [HTZ.out k hk, hcz]), ?_, ?_⟩
  · rw [HZ.out]; exact (HC2.out.set z (by omega)).drew
  · exact only_drew (only_setCell (only_trans HG1.out HG2.out) (.inl rfl) _)

theorem clearRange_any (g t : Nat) (b : Nat → Nat) (i n : Nat) (hn : 1 ≤ n) (hi : i + n ≤ 512) (w : World) (hb : Words b) (hc : Cells8 w g t b) :
    Calls Try.prog 50 #[.pointer (some ⟨g, 0, none⟩), .int .u64 (i : Int), .int .u64 (n : Int)] w (Wrote w g t (ClearTo b i n)) := by
  by_cases h1 : n = 1
  · subst h1; exact clearRange_one g t b i (by omega) w hb hc
  · by_cases hs : i / 64 = (i + n - 1) / 64
    · exact clearRange_same g t b i n (by omega) hi hs w hb hc
    · exact clearRange_wide g t b i n (by omega) hi (by omega) w hb hc

end Go.Proofs.Ytkocngnpkfnblaa
