/- seats: P D. The walk of spec.Summary. -/
import Derived.Test.YtkocngnpkfnblaaWU
import Derived.Test.YtkocngnpkfnblaaMM
namespace Go.Proofs.Ytkocngnpkfnblaa
open Go.RowKit

set_option maxRecDepth 100000 in
set_option maxHeartbeats 1600000 in
theorem specSummary_any (B : Nat) (v : Value) (l : List Bool) (w : World) (hB : B ≤ w.heap.size) (hl : l.length ≤ 1000000) (hr : Reads w B v l) :
    Calls Try.prog 32 #[v] w (RetSum w (IsSum (at_ l) l.length)) := by
  have HD := Lib.hid hr
  obtain ⟨g, cap, rfl, hg, h1, h2, h3⟩ := hr
  unfold maxLen at h2
  have HC := Lib.hid h3
  clear h3
  generalize hL : l.length = L at *
  have HL := Lib.hid hL
  clear hL
  go_enter Try.func32, Try.ntmps32
  go_wp2
  generalize hW1 : w.alloc _ = W1
  have hz : Cells3 W1 w.heap.size 44 0 0 0 := by rw [← hW1]; exact Cells3.zero w _ _ rfl
  have hbel : Below w.heap.size w W1 := by rw [← hW1]; exact (Below.refl _ _).alloc (Nat.le_refl _) _
  have HD1 := Lib.hid (HD.out.below (hbel.mono hB))
  have HC1 : Hid (∀ k, k < L → W1.cell? ⟨g, k, none⟩ = some (.bool (at_ l k))) := fun k hk => (hbel.cell (p := ⟨g, k, none⟩) (show g < w.heap.size by omega)).trans (HC.out k hk)
  have HZ := Lib.hid hz
  have HBL := Lib.hid hbel
  clear hW1 hz hbel
  go_loop [3, 5] (fun m i => ∃ mn k : Nat, k ≤ L ∧ m = .int .i64 mn ∧ i = .int .i64 k ∧ MostTo (at_ l) L k mn) (fun _ i => L - (intOf i).toNat)
  case atStart => exact ⟨0, 0, by omega, rfl, rfl, MostTo.zero _ _⟩
  case round =>
    obtain ⟨mn, k, hk, rfl, rfl, hm⟩ := hrel
    have HM := Lib.hid hm
    have hmn := hm.le
    clear hm
    by_cases hlt : k < L
    · go_wp2_with fail
      refine (run_any B _ l k _ (by rw [HL.out]; omega) HD1.out).mono ?_
      rintro e w1 ⟨r, rfl, hr, rfl⟩
      rw [HL.out] at hr
      have HN := Lib.hid (HM.out.step hr)
      have hrl := hr.1
      clear hr
      have hmx : max (mn : Int) (r : Int) = ((max mn r : Nat) : Int) := by omega
      go_wp2
      all_goals go_round
      all_goals first
      | exact ⟨max mn r, k + 1, by omega, by congr 1; omega, by go_num, HN.out⟩
      | (simp [intOf]; omega)
    · obtain rfl : L = k := by omega
      go_wp2
      go_loop [4] (fun x => ∃ c : Nat, c ≤ L ∧ x = .int .i64 c ∧ Clear (at_ l) (L - c) c) (fun x => L - (intOf x).toNat)
      case atStart => exact ⟨0, by omega, rfl, Clear.zero _ _⟩
      case round =>
        obtain ⟨c, hc, rfl, hcl⟩ := hrel
        have HK := Lib.hid hcl
        clear hcl
        by_cases hcL : c < L
        · have hd : decide ((c : Int) < (L : Int)) = true := by simp; omega
          have ei : (L : Int) - 1 - (c : Int) = ((L - 1 - c : Nat) : Int) := by omega
          have hc1 := HC1.out (L - 1 - c) (by omega)
          cases hb : at_ l (L - 1 - c)
          · rw [hb] at hc1
            have HB := Lib.hid hb
            clear hb
            go_wp2
            go_round
            case rel =>
              refine ⟨c + 1, by omega, by go_num, fun k a e => ?_⟩
              by_cases hk : L - c ≤ k
              · exact HK.out k hk (by omega)
              · rw [show k = L - 1 - c from by omega]; exact HB.out
            case measure => simp [intOf]; omega
          · rw [hb] at hc1
            have HT : Hid (IsTail (at_ l) L c) := ⟨hc, HK.out, fun _ => hb⟩
            clear hb
            go_wp2_with fail
            refine (run_any B _ l 0 _ (Nat.zero_le _) HD1.out).mono ?_
            rintro e w1 ⟨r0, rfl, hr0, rfl⟩
            rw [HL.out] at hr0
            have HS := Lib.hid (show IsSum (at_ l) L r0 mn c from ⟨hr0, HM.out.all, HT.out⟩)
            have hr0l := hr0.1
            have hz := HZ.out
            obtain ⟨f0, f1, f2, z0, z1, z2⟩ := hz.facts
            have ew0 : IntKind.u64.wrap (r0 : Int) = (r0 : Int) := IntWalk.u64_in _ (by omega)
            have ew1 : IntKind.u64.wrap (mn : Int) = (mn : Int) := IntWalk.u64_in _ (by omega)
            have ew2 : IntKind.u64.wrap (c : Int) = (c : Int) := IntWalk.u64_in _ (by omega)
            clear hr0
            go_wp2
            exact bodyPost_ret (results_cell_row rfl _ _ w.heap.size 44 _ (0, 0) _ rfl (hz.fill r0 mn c) Try.underlying44 rfl (by kernel_rfl)) rfl ⟨r0, mn, c, HS.out, rfl, below_fill3 HBL.out (Nat.le_refl _) r0 mn c⟩
        · obtain rfl : L = c := by omega
          have hd : decide ((L : Int) < (L : Int)) = false := by simp
          have HT : Hid (IsTail (at_ l) L L) := ⟨hc, HK.out, fun h => by omega⟩
          go_wp2_with fail
          refine (run_any B _ l 0 _ (Nat.zero_le _) HD1.out).mono ?_
          rintro e w1 ⟨r0, rfl, hr0, rfl⟩
          rw [HL.out] at hr0
          have HS := Lib.hid (show IsSum (at_ l) L r0 mn L from ⟨hr0, HM.out.all, HT.out⟩)
          have hr0l := hr0.1
          have hz := HZ.out
          obtain ⟨f0, f1, f2, z0, z1, z2⟩ := hz.facts
          have ew0 : IntKind.u64.wrap (r0 : Int) = (r0 : Int) := IntWalk.u64_in _ (by omega)
          have ew1 : IntKind.u64.wrap (mn : Int) = (mn : Int) := IntWalk.u64_in _ (by omega)
          have ew2 : IntKind.u64.wrap (L : Int) = (L : Int) := IntWalk.u64_in _ (by omega)
          clear hr0
          go_wp2
          exact bodyPost_ret (results_cell_row rfl _ _ w.heap.size 44 _ (0, 0) _ rfl (hz.fill r0 mn L) Try.underlying44 rfl (by kernel_rfl)) rfl ⟨r0, mn, L, HS.out, rfl, below_fill3 HBL.out (Nat.le_refl _) r0 mn L⟩
end Go.Proofs.Ytkocngnpkfnblaa
