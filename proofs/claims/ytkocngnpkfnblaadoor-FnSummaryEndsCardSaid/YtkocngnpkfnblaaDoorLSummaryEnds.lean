/- seats: D.
  FnSummaryEnds: for every array of eight words: as many pages as the summary tells of the start and of the end are free, and the next one is not, if there is one; no number is above 512, and the longest run is no shorter. No condition but the table that the row lists. (Written by gen_ld.py.)
-/
import Derived.Test.YtkocngnpkfnblaaDoorWD
import Derived.Test.YtkocngnpkfnblaaDoorWJ
import Derived.Test.YtkocngnpkfnblaaDoorWL
import Derived.Test.YtkocngnpkfnblaaDoorMI
import Derived.Test.YtkocngnpkfnblaaDoorWY2
import Derived.Deep.DeepCutAuto
namespace Go.Proofs.YtkocngnpkfnblaaDoor.fnSummaryEnds
open Go.Proofs.YtkocngnpkfnblaaDoor
open Go.ChangeShapes Go.WideShapes Go.ChangeAt Go.RowKit

set_option maxRecDepth 100000 in
set_option maxHeartbeats 1600000 in
theorem walk (b : Nat → Nat) (w : World) (hb : Words b) (hT : Tab w) :
    Calls Tryd.prog 3 #[(.agg #[.int .u64 (b 0), .int .u64 (b 1), .int .u64 (b 2), .int .u64 (b 3), .int .u64 (b 4), .int .u64 (b 5), .int .u64 (b 6), .int .u64 (b 7)])] w (RetTrue w) := by
  have HB := Lib.hid hb
  have HT := Lib.hid hT
  clear hb hT
  obtain ⟨⟨s, m, c⟩, hs⟩ := sum_exists (bt b) 512
  have HS : Hid (IsSum (bt b) 512 s m c) := hs
  clear hs
  obtain ⟨hs, hc, hsm, hcm, hm⟩ := HS.out.ends
  have H1 : Hid (cnt (bt b) 0 s = 0) := HS.out.startFree
  have H2 : Hid (cnt (bt b) (512 - c) c = 0) := HS.out.endFree
  have H3 : Hid (s < 512 → bit1 b s = 1) := fun h => by unfold bit1; rw [HS.out.startUsed h]; rfl
  have H4 : Hid (c < 512 → bit1 b (511 - c) = 1) := fun h => by unfold bit1; rw [HS.out.endUsed h]; rfl
  go_enter Tryd.func3, Tryd.ntmps3
  go_wp2_with fail
  generalize hW1 : w.alloc _ = W1
  have hc1 : Cells8 W1 w.heap.size 23 b := by rw [← hW1]; exact Cells8.new' w _ _ _ rfl
  have hb1 : Below w.heap.size w W1 := by rw [← hW1]; exact (Below.refl _ _).alloc (Nat.le_refl _) _
  clear hW1
  have HC1 := Lib.hid hc1
  have HB1 := Lib.hid hb1
  have HT1 := Lib.hid (HT.out.of hb1)
  clear hc1 hb1
  refine (impl_Summarize_eq b s m c HS.out _ HT1.out HB.out).mono ?_
  rintro e w2 ⟨rfl, hb2⟩
  have HC2 := Lib.hid (HC1.out.below hb2 HC1.out.lt)
  have HB2 := Lib.hid (HB1.out.trans (hb2.mono HB1.out.size))
  clear hb2
  go_upto_region 2 with fail
  generalize hW3 : w2.alloc _ = W3
  have hc3 : Cells8 W3 w.heap.size 23 b := by rw [← hW3]; exact HC2.out.alloc _
  have hd3 : Cells3 W3 w2.heap.size 26 s m c := by rw [← hW3]; exact Cells3.new' _ _ _ _ _ _ rfl
  have hb3 : Below w.heap.size w W3 := by rw [← hW3]; exact HB2.out.alloc HB2.out.size _
  clear hW3
  have HC3 := Lib.hid hc3
  have HD3 := Lib.hid hd3
  have HB3 := Lib.hid hb3
  clear hb3
  obtain ⟨f0, f1, f2, f3, f4, f5, f6, f7⟩ := hc3.facts
  obtain ⟨g0, g1, g2, _, _, _⟩ := hd3.facts
  clear hc3 hd3
  rcases (show s = 0 ∨ (0 < s ∧ s < 512) ∨ s = 512 by omega) with rfl | ⟨hs, hs2⟩ | rfl
  · rcases (show c = 0 ∨ (0 < c ∧ c < 512) ∨ c = 512 by omega) with rfl | ⟨hc, hc2⟩ | rfl
    · go_wp2_with fail
      refine (impl_Get b 0 _ HB.out (by omega)).mono ?_
      rintro e w4 ⟨r, hr, rfl, hb4⟩
      obtain rfl : r = 1 := hr.trans (H3.out (by omega))
      have HC4 := Lib.hid (HC3.out.below hb4 HC3.out.lt)
      have HD4 := Lib.hid (HD3.out.below hb4 HD3.out.lt)
      have HB4 := Lib.hid (HB3.out.trans (hb4.mono HB3.out.size))
      clear hr hb4 f0 f1 f2 f3 f4 f5 f6 f7 g0 g1 g2
      obtain ⟨f0, f1, f2, f3, f4, f5, f6, f7⟩ := HC4.out.facts
      obtain ⟨g0, g1, g2, _, _, _⟩ := HD4.out.facts
      go_wp2_with fail
      refine (impl_Get b 511 _ HB.out (by omega)).mono ?_
      rintro e w5 ⟨r, hr, rfl, hb5⟩
      obtain rfl : r = 1 := hr.trans (H4.out (by omega))
      have HC5 := Lib.hid (HC4.out.below hb5 HC4.out.lt)
      have HD5 := Lib.hid (HD4.out.below hb5 HD4.out.lt)
      have HB5 := Lib.hid (HB4.out.trans (hb5.mono HB4.out.size))
      clear hr hb5 f0 f1 f2 f3 f4 f5 f6 f7 g0 g1 g2
      obtain ⟨f0, f1, f2, f3, f4, f5, f6, f7⟩ := HC5.out.facts
      obtain ⟨g0, g1, g2, _, _, _⟩ := HD5.out.facts
      go_wp2
      go_ret
      exact ⟨rfl, HB5.out⟩
    · have hc5 : ((c : Int) == 512) = false := by simp; omega
      obtain ⟨p, hp⟩ : ∃ p, p = 512 - c := ⟨_, rfl⟩
      obtain ⟨q, hq⟩ : ∃ q, q = 511 - c := ⟨_, rfl⟩
      rw [← hp] at H2
      rw [← hq] at H4
      have ep : (512 : Int) - (c : Int) = (p : Int) := by omega
      have hpc : p + c = 512 := by omega
      have hq5 : q < 512 := by omega
      have eq1 : (511 : Int) - (c : Int) = (q : Int) := by omega
      clear hp hq
      go_wp2_with fail
      refine (impl_PopCount b p c _ HB.out ⟨by omega, by omega⟩).mono ?_
      rintro e w4 ⟨r, hr, rfl, hb4⟩
      obtain rfl : r = 0 := hr.trans H2.out
      have HC4 := Lib.hid (HC3.out.below hb4 HC3.out.lt)
      have HD4 := Lib.hid (HD3.out.below hb4 HD3.out.lt)
      have HB4 := Lib.hid (HB3.out.trans (hb4.mono HB3.out.size))
      clear hr hb4 f0 f1 f2 f3 f4 f5 f6 f7 g0 g1 g2
      obtain ⟨f0, f1, f2, f3, f4, f5, f6, f7⟩ := HC4.out.facts
      obtain ⟨g0, g1, g2, _, _, _⟩ := HD4.out.facts
      go_wp2_with fail
      refine (impl_Get b 0 _ HB.out (by omega)).mono ?_
      rintro e w5 ⟨r, hr, rfl, hb5⟩
      obtain rfl : r = 1 := hr.trans (H3.out (by omega))
      have HC5 := Lib.hid (HC4.out.below hb5 HC4.out.lt)
      have HD5 := Lib.hid (HD4.out.below hb5 HD4.out.lt)
      have HB5 := Lib.hid (HB4.out.trans (hb5.mono HB4.out.size))
      clear hr hb5 f0 f1 f2 f3 f4 f5 f6 f7 g0 g1 g2
      obtain ⟨f0, f1, f2, f3, f4, f5, f6, f7⟩ := HC5.out.facts
      obtain ⟨g0, g1, g2, _, _, _⟩ := HD5.out.facts
      go_wp2_with fail
      refine (impl_Get b q _ HB.out (by omega)).mono ?_
      rintro e w6 ⟨r, hr, rfl, hb6⟩
      obtain rfl : r = 1 := hr.trans (H4.out (by omega))
      have HC6 := Lib.hid (HC5.out.below hb6 HC5.out.lt)
      have HD6 := Lib.hid (HD5.out.below hb6 HD5.out.lt)
      have HB6 := Lib.hid (HB5.out.trans (hb6.mono HB5.out.size))
      clear hr hb6 f0 f1 f2 f3 f4 f5 f6 f7 g0 g1 g2
      obtain ⟨f0, f1, f2, f3, f4, f5, f6, f7⟩ := HC6.out.facts
      obtain ⟨g0, g1, g2, _, _, _⟩ := HD6.out.facts
      go_wp2
      go_ret
      exact ⟨rfl, HB6.out⟩
    · go_wp2_with fail
      refine (impl_PopCount b 0 512 _ HB.out ⟨by omega, by omega⟩).mono ?_
      rintro e w4 ⟨r, hr, rfl, hb4⟩
      obtain rfl : r = 0 := hr.trans H2.out
      have HC4 := Lib.hid (HC3.out.below hb4 HC3.out.lt)
      have HD4 := Lib.hid (HD3.out.below hb4 HD3.out.lt)
      have HB4 := Lib.hid (HB3.out.trans (hb4.mono HB3.out.size))
      clear hr hb4 f0 f1 f2 f3 f4 f5 f6 f7 g0 g1 g2
      obtain ⟨f0, f1, f2, f3, f4, f5, f6, f7⟩ := HC4.out.facts
      obtain ⟨g0, g1, g2, _, _, _⟩ := HD4.out.facts
      go_wp2_with fail
      refine (impl_Get b 0 _ HB.out (by omega)).mono ?_
      rintro e w5 ⟨r, hr, rfl, hb5⟩
      obtain rfl : r = 1 := hr.trans (H3.out (by omega))
      have HC5 := Lib.hid (HC4.out.below hb5 HC4.out.lt)
      have HD5 := Lib.hid (HD4.out.below hb5 HD4.out.lt)
      have HB5 := Lib.hid (HB4.out.trans (hb5.mono HB4.out.size))
      clear hr hb5 f0 f1 f2 f3 f4 f5 f6 f7 g0 g1 g2
      obtain ⟨f0, f1, f2, f3, f4, f5, f6, f7⟩ := HC5.out.facts
      obtain ⟨g0, g1, g2, _, _, _⟩ := HD5.out.facts
      go_wp2
      go_ret
      exact ⟨rfl, HB5.out⟩
  · rcases (show c = 0 ∨ (0 < c ∧ c < 512) ∨ c = 512 by omega) with rfl | ⟨hc, hc2⟩ | rfl
    · have hs5 : ((s : Int) == 512) = false := by simp; omega
      go_wp2_with fail
      refine (impl_PopCount b 0 s _ HB.out ⟨by omega, by omega⟩).mono ?_
      rintro e w4 ⟨r, hr, rfl, hb4⟩
      obtain rfl : r = 0 := hr.trans H1.out
      have HC4 := Lib.hid (HC3.out.below hb4 HC3.out.lt)
      have HD4 := Lib.hid (HD3.out.below hb4 HD3.out.lt)
      have HB4 := Lib.hid (HB3.out.trans (hb4.mono HB3.out.size))
      clear hr hb4 f0 f1 f2 f3 f4 f5 f6 f7 g0 g1 g2
      obtain ⟨f0, f1, f2, f3, f4, f5, f6, f7⟩ := HC4.out.facts
      obtain ⟨g0, g1, g2, _, _, _⟩ := HD4.out.facts
      go_wp2_with fail
      refine (impl_Get b s _ HB.out (by omega)).mono ?_
      rintro e w5 ⟨r, hr, rfl, hb5⟩
      obtain rfl : r = 1 := hr.trans (H3.out (by omega))
      have HC5 := Lib.hid (HC4.out.below hb5 HC4.out.lt)
      have HD5 := Lib.hid (HD4.out.below hb5 HD4.out.lt)
      have HB5 := Lib.hid (HB4.out.trans (hb5.mono HB4.out.size))
      clear hr hb5 f0 f1 f2 f3 f4 f5 f6 f7 g0 g1 g2
      obtain ⟨f0, f1, f2, f3, f4, f5, f6, f7⟩ := HC5.out.facts
      obtain ⟨g0, g1, g2, _, _, _⟩ := HD5.out.facts
      go_wp2_with fail
      refine (impl_Get b 511 _ HB.out (by omega)).mono ?_
      rintro e w6 ⟨r, hr, rfl, hb6⟩
      obtain rfl : r = 1 := hr.trans (H4.out (by omega))
      have HC6 := Lib.hid (HC5.out.below hb6 HC5.out.lt)
      have HD6 := Lib.hid (HD5.out.below hb6 HD5.out.lt)
      have HB6 := Lib.hid (HB5.out.trans (hb6.mono HB5.out.size))
      clear hr hb6 f0 f1 f2 f3 f4 f5 f6 f7 g0 g1 g2
      obtain ⟨f0, f1, f2, f3, f4, f5, f6, f7⟩ := HC6.out.facts
      obtain ⟨g0, g1, g2, _, _, _⟩ := HD6.out.facts
      go_wp2
      go_ret
      exact ⟨rfl, HB6.out⟩
    · have hs5 : ((s : Int) == 512) = false := by simp; omega
      have hc5 : ((c : Int) == 512) = false := by simp; omega
      obtain ⟨p, hp⟩ : ∃ p, p = 512 - c := ⟨_, rfl⟩
      obtain ⟨q, hq⟩ : ∃ q, q = 511 - c := ⟨_, rfl⟩
      rw [← hp] at H2
      rw [← hq] at H4
      have ep : (512 : Int) - (c : Int) = (p : Int) := by omega
      have hpc : p + c = 512 := by omega
      have hq5 : q < 512 := by omega
      have eq1 : (511 : Int) - (c : Int) = (q : Int) := by omega
      clear hp hq
      go_wp2_with fail
      refine (impl_PopCount b 0 s _ HB.out ⟨by omega, by omega⟩).mono ?_
      rintro e w4 ⟨r, hr, rfl, hb4⟩
      obtain rfl : r = 0 := hr.trans H1.out
      have HC4 := Lib.hid (HC3.out.below hb4 HC3.out.lt)
      have HD4 := Lib.hid (HD3.out.below hb4 HD3.out.lt)
      have HB4 := Lib.hid (HB3.out.trans (hb4.mono HB3.out.size))
      clear hr hb4 f0 f1 f2 f3 f4 f5 f6 f7 g0 g1 g2
      obtain ⟨f0, f1, f2, f3, f4, f5, f6, f7⟩ := HC4.out.facts
      obtain ⟨g0, g1, g2, _, _, _⟩ := HD4.out.facts
      go_wp2_with fail
      refine (impl_PopCount b p c _ HB.out ⟨by omega, by omega⟩).mono ?_
      rintro e w5 ⟨r, hr, rfl, hb5⟩
      obtain rfl : r = 0 := hr.trans H2.out
      have HC5 := Lib.hid (HC4.out.below hb5 HC4.out.lt)
      have HD5 := Lib.hid (HD4.out.below hb5 HD4.out.lt)
      have HB5 := Lib.hid (HB4.out.trans (hb5.mono HB4.out.size))
      clear hr hb5 f0 f1 f2 f3 f4 f5 f6 f7 g0 g1 g2
      obtain ⟨f0, f1, f2, f3, f4, f5, f6, f7⟩ := HC5.out.facts
      obtain ⟨g0, g1, g2, _, _, _⟩ := HD5.out.facts
      go_wp2_with fail
      refine (impl_Get b s _ HB.out (by omega)).mono ?_
      rintro e w6 ⟨r, hr, rfl, hb6⟩
      obtain rfl : r = 1 := hr.trans (H3.out (by omega))
      have HC6 := Lib.hid (HC5.out.below hb6 HC5.out.lt)
      have HD6 := Lib.hid (HD5.out.below hb6 HD5.out.lt)
      have HB6 := Lib.hid (HB5.out.trans (hb6.mono HB5.out.size))
      clear hr hb6 f0 f1 f2 f3 f4 f5 f6 f7 g0 g1 g2
      obtain ⟨f0, f1, f2, f3, f4, f5, f6, f7⟩ := HC6.out.facts
      obtain ⟨g0, g1, g2, _, _, _⟩ := HD6.out.facts
      go_wp2_with fail
      refine (impl_Get b q _ HB.out (by omega)).mono ?_
      rintro e w7 ⟨r, hr, rfl, hb7⟩
      obtain rfl : r = 1 := hr.trans (H4.out (by omega))
      have HC7 := Lib.hid (HC6.out.below hb7 HC6.out.lt)
      have HD7 := Lib.hid (HD6.out.below hb7 HD6.out.lt)
      have HB7 := Lib.hid (HB6.out.trans (hb7.mono HB6.out.size))
      clear hr hb7 f0 f1 f2 f3 f4 f5 f6 f7 g0 g1 g2
      obtain ⟨f0, f1, f2, f3, f4, f5, f6, f7⟩ := HC7.out.facts
      obtain ⟨g0, g1, g2, _, _, _⟩ := HD7.out.facts
      go_wp2
      go_ret
      exact ⟨rfl, HB7.out⟩
    · have hs5 : ((s : Int) == 512) = false := by simp; omega
      go_wp2_with fail
      refine (impl_PopCount b 0 s _ HB.out ⟨by omega, by omega⟩).mono ?_
      rintro e w4 ⟨r, hr, rfl, hb4⟩
      obtain rfl : r = 0 := hr.trans H1.out
      have HC4 := Lib.hid (HC3.out.below hb4 HC3.out.lt)
      have HD4 := Lib.hid (HD3.out.below hb4 HD3.out.lt)
      have HB4 := Lib.hid (HB3.out.trans (hb4.mono HB3.out.size))
      clear hr hb4 f0 f1 f2 f3 f4 f5 f6 f7 g0 g1 g2
      obtain ⟨f0, f1, f2, f3, f4, f5, f6, f7⟩ := HC4.out.facts
      obtain ⟨g0, g1, g2, _, _, _⟩ := HD4.out.facts
      go_wp2_with fail
      refine (impl_PopCount b 0 512 _ HB.out ⟨by omega, by omega⟩).mono ?_
      rintro e w5 ⟨r, hr, rfl, hb5⟩
      obtain rfl : r = 0 := hr.trans H2.out
      have HC5 := Lib.hid (HC4.out.below hb5 HC4.out.lt)
      have HD5 := Lib.hid (HD4.out.below hb5 HD4.out.lt)
      have HB5 := Lib.hid (HB4.out.trans (hb5.mono HB4.out.size))
      clear hr hb5 f0 f1 f2 f3 f4 f5 f6 f7 g0 g1 g2
      obtain ⟨f0, f1, f2, f3, f4, f5, f6, f7⟩ := HC5.out.facts
      obtain ⟨g0, g1, g2, _, _, _⟩ := HD5.out.facts
      go_wp2_with fail
      refine (impl_Get b s _ HB.out (by omega)).mono ?_
      rintro e w6 ⟨r, hr, rfl, hb6⟩
      obtain rfl : r = 1 := hr.trans (H3.out (by omega))
      have HC6 := Lib.hid (HC5.out.below hb6 HC5.out.lt)
      have HD6 := Lib.hid (HD5.out.below hb6 HD5.out.lt)
      have HB6 := Lib.hid (HB5.out.trans (hb6.mono HB5.out.size))
      clear hr hb6 f0 f1 f2 f3 f4 f5 f6 f7 g0 g1 g2
      obtain ⟨f0, f1, f2, f3, f4, f5, f6, f7⟩ := HC6.out.facts
      obtain ⟨g0, g1, g2, _, _, _⟩ := HD6.out.facts
      go_wp2
      go_ret
      exact ⟨rfl, HB6.out⟩
  · rcases (show c = 0 ∨ (0 < c ∧ c < 512) ∨ c = 512 by omega) with rfl | ⟨hc, hc2⟩ | rfl
    · go_wp2_with fail
      refine (impl_PopCount b 0 512 _ HB.out ⟨by omega, by omega⟩).mono ?_
      rintro e w4 ⟨r, hr, rfl, hb4⟩
      obtain rfl : r = 0 := hr.trans H1.out
      have HC4 := Lib.hid (HC3.out.below hb4 HC3.out.lt)
      have HD4 := Lib.hid (HD3.out.below hb4 HD3.out.lt)
      have HB4 := Lib.hid (HB3.out.trans (hb4.mono HB3.out.size))
      clear hr hb4 f0 f1 f2 f3 f4 f5 f6 f7 g0 g1 g2
      obtain ⟨f0, f1, f2, f3, f4, f5, f6, f7⟩ := HC4.out.facts
      obtain ⟨g0, g1, g2, _, _, _⟩ := HD4.out.facts
      go_wp2_with fail
      refine (impl_Get b 511 _ HB.out (by omega)).mono ?_
      rintro e w5 ⟨r, hr, rfl, hb5⟩
      obtain rfl : r = 1 := hr.trans (H4.out (by omega))
      have HC5 := Lib.hid (HC4.out.below hb5 HC4.out.lt)
      have HD5 := Lib.hid (HD4.out.below hb5 HD4.out.lt)
      have HB5 := Lib.hid (HB4.out.trans (hb5.mono HB4.out.size))
      clear hr hb5 f0 f1 f2 f3 f4 f5 f6 f7 g0 g1 g2
      obtain ⟨f0, f1, f2, f3, f4, f5, f6, f7⟩ := HC5.out.facts
      obtain ⟨g0, g1, g2, _, _, _⟩ := HD5.out.facts
      go_wp2
      go_ret
      exact ⟨rfl, HB5.out⟩
    · have hc5 : ((c : Int) == 512) = false := by simp; omega
      obtain ⟨p, hp⟩ : ∃ p, p = 512 - c := ⟨_, rfl⟩
      obtain ⟨q, hq⟩ : ∃ q, q = 511 - c := ⟨_, rfl⟩
      rw [← hp] at H2
      rw [← hq] at H4
      have ep : (512 : Int) - (c : Int) = (p : Int) := by omega
      have hpc : p + c = 512 := by omega
      have hq5 : q < 512 := by omega
      have eq1 : (511 : Int) - (c : Int) = (q : Int) := by omega
      clear hp hq
      go_wp2_with fail
      refine (impl_PopCount b 0 512 _ HB.out ⟨by omega, by omega⟩).mono ?_
      rintro e w4 ⟨r, hr, rfl, hb4⟩
      obtain rfl : r = 0 := hr.trans H1.out
      have HC4 := Lib.hid (HC3.out.below hb4 HC3.out.lt)
      have HD4 := Lib.hid (HD3.out.below hb4 HD3.out.lt)
      have HB4 := Lib.hid (HB3.out.trans (hb4.mono HB3.out.size))
      clear hr hb4 f0 f1 f2 f3 f4 f5 f6 f7 g0 g1 g2
      obtain ⟨f0, f1, f2, f3, f4, f5, f6, f7⟩ := HC4.out.facts
      obtain ⟨g0, g1, g2, _, _, _⟩ := HD4.out.facts
      go_wp2_with fail
      refine (impl_PopCount b p c _ HB.out ⟨by omega, by omega⟩).mono ?_
      rintro e w5 ⟨r, hr, rfl, hb5⟩
      obtain rfl : r = 0 := hr.trans H2.out
      have HC5 := Lib.hid (HC4.out.below hb5 HC4.out.lt)
      have HD5 := Lib.hid (HD4.out.below hb5 HD4.out.lt)
      have HB5 := Lib.hid (HB4.out.trans (hb5.mono HB4.out.size))
      clear hr hb5 f0 f1 f2 f3 f4 f5 f6 f7 g0 g1 g2
      obtain ⟨f0, f1, f2, f3, f4, f5, f6, f7⟩ := HC5.out.facts
      obtain ⟨g0, g1, g2, _, _, _⟩ := HD5.out.facts
      go_wp2_with fail
      refine (impl_Get b q _ HB.out (by omega)).mono ?_
      rintro e w6 ⟨r, hr, rfl, hb6⟩
      obtain rfl : r = 1 := hr.trans (H4.out (by omega))
      have HC6 := Lib.hid (HC5.out.below hb6 HC5.out.lt)
      have HD6 := Lib.hid (HD5.out.below hb6 HD5.out.lt)
      have HB6 := Lib.hid (HB5.out.trans (hb6.mono HB5.out.size))
      clear hr hb6 f0 f1 f2 f3 f4 f5 f6 f7 g0 g1 g2
      obtain ⟨f0, f1, f2, f3, f4, f5, f6, f7⟩ := HC6.out.facts
      obtain ⟨g0, g1, g2, _, _, _⟩ := HD6.out.facts
      go_wp2
      go_ret
      exact ⟨rfl, HB6.out⟩
    · go_wp2_with fail
      refine (impl_PopCount b 0 512 _ HB.out ⟨by omega, by omega⟩).mono ?_
      rintro e w4 ⟨r, hr, rfl, hb4⟩
      obtain rfl : r = 0 := hr.trans H1.out
      have HC4 := Lib.hid (HC3.out.below hb4 HC3.out.lt)
      have HD4 := Lib.hid (HD3.out.below hb4 HD3.out.lt)
      have HB4 := Lib.hid (HB3.out.trans (hb4.mono HB3.out.size))
      clear hr hb4 f0 f1 f2 f3 f4 f5 f6 f7 g0 g1 g2
      obtain ⟨f0, f1, f2, f3, f4, f5, f6, f7⟩ := HC4.out.facts
      obtain ⟨g0, g1, g2, _, _, _⟩ := HD4.out.facts
      go_wp2_with fail
      refine (impl_PopCount b 0 512 _ HB.out ⟨by omega, by omega⟩).mono ?_
      rintro e w5 ⟨r, hr, rfl, hb5⟩
      obtain rfl : r = 0 := hr.trans H2.out
      have HC5 := Lib.hid (HC4.out.below hb5 HC4.out.lt)
      have HD5 := Lib.hid (HD4.out.below hb5 HD4.out.lt)
      have HB5 := Lib.hid (HB4.out.trans (hb5.mono HB4.out.size))
      clear hr hb5 f0 f1 f2 f3 f4 f5 f6 f7 g0 g1 g2
      obtain ⟨f0, f1, f2, f3, f4, f5, f6, f7⟩ := HC5.out.facts
      obtain ⟨g0, g1, g2, _, _, _⟩ := HD5.out.facts
      go_wp2
      go_ret
      exact ⟨rfl, HB5.out⟩

set_option maxRecDepth 100000 in
theorem lifted (os : Os) (started : os.Started) (H : Type) (enc : TypeId × Value → H) :
    ReturnsInHanded {} Tryd.checked os 3 .any (fun w args => (Rows.fnSummaryEndsSpec.pre enc Tryd.prog Tryd.f3 [] false w args ∧ laidMetH Tryd.prog [("math/bits.deBruijn64tab", Rows.laid_math_bits_deBruijn64tab)] w) ∧ sizedMet enc Tryd.prog Tryd.f3 (OpenSpec.ofChange Rows.fnSummaryEndsSpec) false w args)
      (Rows.fnSummaryEndsSpec.post enc Tryd.prog Tryd.f3 false true false false) := by
  refine returnsInHanded_of_change_and (C := Tryd.checked) (X := fun w _ => laidMetH Tryd.prog [("math/bits.deBruijn64tab", Rows.laid_math_bits_deBruijn64tab)] w) (fun _ _ _ hh h => h.of_heap hh) own started (by kernel_rfl) Tryd.func3
    (ChangeSpec.witness_shaped (enc := enc) (C := Tryd.checked) (os := os) (X := fun w _ => laidMetH Tryd.prog [("math/bits.deBruijn64tab", Rows.laid_math_bits_deBruijn64tab)] w) false (World.doorLaid Tryd.prog 14 os) #[.agg #[.int .u64 0, .int .u64 0, .int .u64 0, .int .u64 0, .int .u64 0, .int .u64 0, .int .u64 0, .int .u64 0]] 8 rfl (World.shaped_of_RefB (by kernel_rfl) (by kernel_rfl)) (by kernel_rfl) (by kernel_rfl) (by kernel_rfl) (door_met os _)) ?_
  intro W base args ds gs before hval0 hW _ _ hL _
  have hval : ∀ (j : Nat) t v, Tryd.f3.params[j]? = some t → args[j]? = some v → Value.okWide Tryd.prog W .any base t v := hval0
  have hW' := hW
  obtain ⟨p, q, hA0, hV, rfl, hfz, hnd⟩ := hW
  have hA : DataW.TrodAll enc Tryd.prog W 0 (fun _ => true) true Tryd.f3.params.toList args.toList ds p := hA0
  rw [Tryd.params3] at hA hval
  obtain ⟨v0, vs0, d0, ds0, p0, q0, hargs, rfl, rfl, h0, r0⟩ := trodAll_cons hA
  obtain ⟨rfl, rfl, rfl⟩ := trodAll_nil r0
  obtain rfl : args = #[v0] := by cases args; simp_all
  obtain ⟨rfl, rfl⟩ := trodVars_none hV
  have k0 := h0
  have lt0 : ∀ x ∈ p0, x.block < W.heap.size := by obtain ⟨m, hm⟩ := k0; exact DataW.trod_lt m _ _ _ hm
  obtain ⟨a0, w0, rfl⟩ := open_arr8 (hval 0 23 v0 rfl rfl) h0
  clear hA0 hval0
  refine (walk a0 W w0 (tab_of_laid hL)).mono fun e W' ⟨he, bel⟩ => ?_
  subst he
  exact ⟨_, rfl, _, _, _, [], _, [], hW', trodAll_mk1 (shut_bool Tryd.underlying4 _), (trodAll_cons_mk (Below.trod laidOut (by kernel_rfl) (of_decide_eq_true (by kernel_rfl)) k0 bel lt0) trodAll_mk0), rfl, bel.frame _, fun h => by cases h⟩

theorem over1 : Tryd.pinned.checked.prog.funcNamed Rows.fnSummaryEndsRow.func = some 3 := by kernel_rfl
theorem over2 : joinedFacts Tryd.pinned.checked.prog 3 Tryd.f3 Rows.fnSummaryEndsSpec Rows.fnSummaryEndsRow = true := by kernel_rfl
theorem over3 : Tryd.f3.isInstance Tryd.pinned.checked.prog Rows.fnSummaryEndsRow.origin Rows.fnSummaryEndsRow.targs := of_decide_eq_true (by kernel_rfl)
theorem over4 : Tryd.f3.isWrapper Tryd.pinned.checked.prog Rows.fnSummaryEndsRow.wrapper Rows.fnSummaryEndsRow.mainSum := by unfold Func.isWrapper; first | (rw [if_pos (by decide +kernel)]; kernel_rfl) | (rw [if_neg (by decide +kernel)]; exact ⟨rfl, rfl⟩)
theorem over : Rows.fnSummaryEndsRow.holds Tryd.pinned (OpenSpec.ofChange Rows.fnSummaryEndsSpec) :=
  OpenClaim.holds_of_wide 3 Tryd.f3 rfl rfl rfl rfl rfl rfl rfl ⟨rfl, rfl, rfl, rfl, rfl⟩ rfl rfl rfl rfl rfl over1 Tryd.func3 over2 over3 over4
    (fun os started H enc _ => lifted os started H enc)

theorem proved : Rows.FnSummaryEndsCardSaid :=
  Claim7.holds_tied_plain_at .later [] [.data] true (true, "f2e7d653563900c7ead1574bf6931cc5751bd8d21ddad2109745e814cfc3dc11") false
    over (fun _ h => by cases h) (by kernel_rfl) (fun _ h => by cases h) fnSummaryEnds_row_tie rfl ⟨rfl, rfl⟩ (by kernel_rfl) rfl
    (fun f fn hf hfn => by
      obtain rfl : f = 3 := Option.some.inj ((show Tryd.prog.funcNamed "loop.example/pub-pagebitmaps/laws.FnSummaryEnds" = some 3 by kernel_rfl).symm.trans hf) |>.symm
      obtain rfl : fn = Tryd.f3 := (Option.some.inj (Tryd.func3.symm.trans hfn)).symm
      exact ⟨by kernel_rfl, fun j t ht => by
        rw [Tryd.params3] at ht
        have hm : t ∈ [23] := by simpa using Array.mem_of_getElem? ht
        have hall : ([23].all fun u => !Tryd.prog.wantsStandIn u) = true := by kernel_rfl
        exact (show Tryd.prog.wantsStandIn t = false by simpa using List.all_eq_true.1 hall t hm)⟩)
    (by kernel_rfl)
#print axioms proved
end Go.Proofs.YtkocngnpkfnblaaDoor.fnSummaryEnds
