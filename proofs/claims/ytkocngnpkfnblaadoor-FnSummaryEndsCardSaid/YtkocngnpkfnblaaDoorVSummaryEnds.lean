/- seats: D.
  FnSummaryEnds: for every array of eight words: as many pages as the summary tells of the start and of the end are free, and the next one is not, if there is one; no number is above 512, and the longest run is no shorter. No condition but the table that the row lists. (Written by gen_ld.py.)
-/
import Derived.Test.YtkocngnpkfnblaaDoorWD
import Derived.Test.YtkocngnpkfnblaaDoorWJ
import Derived.Test.YtkocngnpkfnblaaDoorWL
import Derived.Test.YtkocngnpkfnblaaDoorMI
import Derived.Test.YtkocngnpkfnblaaDoorWY2
import Derived.Deep.DeepCutAuto
namespace Go.Proofs.YtkocngnpkfnblaaDoor.fnSummaryEnds
open Go.Proofs.YtkocngnpkfnblaaDoor
open Go.ChangeShapes Go.WideShapes Go.ChangeAt Go.RowKit

set_option maxRecDepth 100000 in
set_option maxHeartbeats 1600000 in
theorem walk (b : Nat → Nat) (w : World) (hb : Words b) (hT : Tab w) :
    Calls Tryd.prog 3 #[(.agg #[.int .u64 (b 0), .int .u64 (b 1), .int .u64 (b 2), .int .u64 (b 3), .int .u64 (b 4), .int .u64 (b 5), .int .u64 (b 6), .int .u64 (b 7)])] w (RetTrue w) := by
  have HB := Lib.hid hb
  have HT := Lib.hid hT
  clear hb hT
  obtain ⟨⟨s, m, c⟩, hs⟩ := sum_exists (bt b) 512
  have HS : Hid (IsSum (bt b) 512 s m c) := hs
  clear hs
  obtain ⟨hs, hc, hsm, hcm, hm⟩ := HS.out.ends
  have H1 : Hid (cnt (bt b) 0 s = 0) := HS.out.startFree
  have H2 : Hid (cnt (bt b) (512 - c) c = 0) := HS.out.endFree
  have H3 : Hid (s < 512 → bit1 b s = 1) := fun h => by unfold bit1; rw [HS.out.startUsed h]; rfl
  have H4 : Hid (c < 512 → bit1 b (511 - c) = 1) := fun h => by unfold bit1; rw [HS.out.endUsed h]; rfl
  go_enter Tryd.func3, Tryd.ntmps3
  go_wp2_with fail
  generalize hW1 : w.alloc _ = W1
  have hc1 : Cells8 W1 w.heap.size 23 b := by rw [← hW1]; exact Cells8.new' w _ _ _ rfl
  have hb1 : Below w.heap.size w W1 := by rw [← hW1]; exact (Below.refl _ _).alloc (Nat.le_refl _) _
  clear hW1
  have HC1 := Lib.hid hc1
  have HB1 := Lib.hid hb1
  have HT1 := Lib.hid (HT.out.of hb1)
  clear hc1 hb1
  refine (impl_Summarize_eq b s m c HS.out _ HT1.out HB.out).mono ?_
  rintro e w2 ⟨rfl, hb2⟩
  have HC2 := Lib.hid (HC1.out.below hb2 HC1.out.lt)
  have HB2 := Lib.hid (HB1.out.trans (hb2.mono HB1.out.size))
  clear hb2
  go_upto_region 2 with fail
  generalize hW3 : w2.alloc _ = W3
  have hc3 : Cells8 W3 w.heap.size 23 b := by rw [← hW3]; exact HC2.out.alloc _
  have hd3 : Cells3 W3 w2.heap.size 26 s m c := by rw [← hW3]; exact Cells3.new' _ _ _ _ _ _ rfl
  have hb3 : Below w.heap.size w W3 := by rw [← hW3]; exact HB2.out.alloc HB2.out.size _
  clear hW3
  have HC3 := Lib.hid hc3
  have HD3 := Lib.hid hd3
  have HB3 := Lib.hid hb3
  clear hb3
  obtain ⟨f0, f1, f2, f3, f4, f5, f6, f7⟩ := hc3.facts
  obtain ⟨g0, g1, g2, _, _, _⟩ := hd3.facts
  clear hc3 hd3
  rcases (show s = 0 ∨ (0 < s ∧ s < 512) ∨ s = 512 by omega) with rfl | ⟨hs, hs2⟩ | rfl
  · rcases (show c = 0 ∨ (0 < c ∧ c < 512) ∨ c = 512 by omega) with rfl | ⟨hc, hc2⟩ | rfl
    · go_wp2_with fail
      refine (impl_Get b 0 _ HB.out (by omega)).mono ?_
      rintro e w4 ⟨r, hr, rfl, hb4⟩
      obtain rfl : r = 1 := hr.trans (H3.out (by omega))
      have HC4 := Lib.hid (HC3.out.below hb4 HC3.out.lt)
      have HD4 := Lib.hid (HD3.out.below hb4 HD3.out.lt)
      have HB4 := Lib.hid (HB3.out.trans (hb4.mono HB3.out.size))
      clear hr hb4 f0 f1 f2 f3 f4 f5 f6 f7 g0 g1 g2
      obtain ⟨f0, f1, f2, f3, f4, f5, f6, f7⟩ := HC4.out.facts
      obtain ⟨g0, g1, g2, _, _, _⟩ := HD4.out.facts
      go_wp2_with fail
      refine (impl_Get b 511 _ HB.out (by omega)).mono ?_
      rintro e w5 ⟨r, hr, rfl, hb5⟩
      obtain rfl : r = 1 := hr.trans (H4.out (by omega))
      have HC5 := Lib.hid (HC4.out.below hb5 HC4.out.lt)
      have HD5 := Lib.hid (HD4.out.below hb5 HD4.out.lt)
      have HB5 := Lib.hid (HB4.out.trans (hb5.mono HB4.out.size))
      clear hr hb5 f0 f1 f2 f3 f4 f5 f6 f7 g0 g1 g2
      obtain ⟨f0, f1, f2, f3, f4, f5, f6, f7⟩ := HC5.out.facts
      obtain ⟨g0, g1, g2, _, _, _⟩ := HD5.out.facts
      go_wp2
      go_ret
      exact ⟨rfl, HB5.out⟩
    · have hc5 : ((c : Int) == 512) = false := by simp; omega
      obtain ⟨p, hp⟩ : ∃ p, p = 512 - c := ⟨_, rfl⟩
      obtain ⟨q, hq⟩ : ∃ q, q = 511 - c := ⟨_, rfl⟩
      rw [← hp] at H2
      rw [← hq] at H4
      have ep : (512 : Int) - (c : Int) = (p : Int) := by omega
      have hpc : p + c = 512 := by omega
      have hq5 : q < 512 := by omega
      have eq1 : (511 : Int) - (c : Int) = (q : Int) := by omega
      clear hp hq
      go_wp2_with fail
      refine (impl_PopCount b p c _ HB.out ⟨by omega, by omega⟩).mono ?_
      rintro e w4 ⟨r, hr, rfl, hb4⟩
      obtain rfl : r = 0 := hr.trans H2.out
      have HC4 := Lib.hid (HC3.out.below hb4 HC3.out.lt)
      have HD4 := Lib.hid (HD3.out.below hb4 HD3.out.lt)
      have HB4 := Lib.hid (HB3.out.trans (hb4.mono HB3.out.size))
      clear hr hb4 f0 f1 f2 f3 f4 f5 f6 f7 g0 g1 g2
      obtain ⟨f0, f1, f2, f3, f4, f5, f6, f7⟩ := HC4.out.facts
      obtain ⟨g0, g1, g2, _, _, _⟩ := HD4.out.facts
      go_wp2_with fail
      refine (impl_Get b 0 _ HB.out (by omega)).mono ?_
      rintro e w5 ⟨r, hr, rfl, hb5⟩
      obtain rfl : r = 1 := hr.trans (H3.out (by omega))
      have HC5 := Lib.hid (HC4.out.below hb5 HC4.out.lt)
      have HD5 := Lib.hid (HD4.out.below hb5 HD4.out.lt)
      have HB5 := Lib.hid (HB4.out.trans (hb5.mono HB4.out.size))
      clear hr hb5 f0 f1 f2 f3 f4 f5 f6 f7 g0 g1 g2
      obtain ⟨f0, f1, f2, f3, f4, f5, f6, f7⟩ := HC5.out.facts
      obtain ⟨g0, g1, g2, _, _, _⟩ := HD5.out.facts
      go_wp2_with fail
      refine (impl_Get b q _ HB.out (by omega)).mono ?_
      rintro e w6 ⟨r, hr, rfl, hb6⟩
      obtain rfl : r = 1 := hr.trans (H4.out (by omega))
      have HC6 := Lib.hid (HC5.out.below hb6 HC5.out.lt)
      have HD6 := Lib.hid (HD5.out.below hb6 HD5.out.lt)
      have HB6 := Lib.hid (HB5.out.trans (hb6.mono HB5.out.size))
      clear hr hb6 f0 f1 f2 f3 f4 f5 f6 f7 g0 g1 g2
      obtain ⟨f0, f1, f2, f3, f4, f5, f6, f7⟩ := HC6.out.facts
      obtain ⟨g0, g1, g2, _, _, _⟩ := HD6.out.facts
      go_wp2
      go_ret
      exact ⟨rfl, HB6.out⟩
    · go_wp2_with fail
      refine (impl_PopCount b 0 512 _ HB.out ⟨by omega, by omega⟩).mono ?_
      rintro e w4 ⟨r, hr, rfl, hb4⟩
      obtain rfl : r = 0 := hr.trans H2.out
      have HC4 := Lib.hid (HC3.out.below hb4 HC3.out.lt)
      have HD4 := Lib.hid (HD3.out.below hb4 HD3.out.lt)
      have HB4 := Lib.hid (HB3.out.trans (hb4.mono HB3.out.size))
      clear hr hb4 f0 f1 f2 f3 f4 f5 f6 f7 g0 g1 g2
      obtain ⟨f0, f1, f2, f3, f4, f5, f6, f7⟩ := HC4.out.facts
      obtain ⟨g0, g1, g2, _, _, _⟩ := HD4.out.facts
      go_wp2_with fail
      refine (impl_Get b 0 _ HB.out (by omega)).mono ?_
      rintro e w5 ⟨r, hr, rfl, hb5⟩
      obtain rfl : r = 1 := hr.trans (H3.out (by omega))
      have HC5 := Lib.hid (HC4.out.below hb5 HC4.out.lt)
      have HD5 := Lib.hid (HD4.out.below hb5 HD4.out.lt)
      have HB5 := Lib.hid (HB4.out.trans (hb5.mono HB4.out.size))
      clear hr hb5 f0 f1 f2 f3 f4 f5 f6 f7 g0 g1 g2
      obtain ⟨f0, f1, f2, f3, f4, f5, f6, f7⟩ := HC5.out.facts
      obtain ⟨g0, g1, g2, _, _, _⟩ := HD5.out.facts
      go_wp2
      go_ret
      exact ⟨rfl, HB5.out⟩
  · rcases (show c = 0 ∨ (0 < c ∧ c < 512) ∨ c = 512 by omega) with rfl | ⟨hc, hc2⟩ | rfl
    · have hs5 : ((s : Int) == 512) = false := by simp; omega
      go_wp2_with fail
      refine (impl_PopCount b 0 s _ HB.out ⟨by omega, by omega⟩).mono ?_
      rintro e w4 ⟨r, hr, rfl, hb4⟩
      obtain rfl : r = 0 := hr.trans H1.out
      have HC4 := Lib.hid (HC3.out.below hb4 HC3.out.lt)
      have HD4 := Lib.hid (HD3.out.below hb4 HD3.out.lt)
      have HB4 := Lib.hid (HB3.out.trans (hb4.mono HB3.out.size))
      clear hr hb4 f0 f1 f2 f3 f4 f5 f6 f7 g0 g1 g2
      obtain ⟨f0, f1, f2, f3, f4, f5, f6, f7⟩ := HC4.out.facts
      obtain ⟨g0, g1, g2, _, _, _⟩ := HD4.out.facts
      go_wp2_with fail
      refine (impl_Get b s _ HB.out (by omega)).mono ?_
      rintro e w5 ⟨r, hr, rfl, hb5⟩
      obtain rfl : r = 1 := hr.trans (H3.out (by omega))
      have HC5 := Lib.hid (HC4.out.below hb5 HC4.out.lt)
      have HD5 := Lib.hid (HD4.out.below hb5 HD4.out.lt)
      have HB5 := Lib.hid (HB4.out.trans (hb5.mono HB4.out.size))
      clear hr hb5 f0 f1 f2 f3 f4 f5 f6 f7 g0 g1 g2
      obtain ⟨f0, f1, f2, f3, f4, f5, f6, f7⟩ := HC5.out.facts
      obtain ⟨g0, g1, g2, _, _, _⟩ := HD5.out.facts
      go_wp2_with fail
      refine (impl_Get b 511 _ HB.out (by omega)).mono ?_
      rintro e w6 ⟨r, hr, rfl, hb6⟩
      obtain rfl : r = 1 := hr.trans (H4.out (by omega))
      have HC6 := Lib.hid (HC5.out.below hb6 HC5.out.lt)
      have HD6 := Lib.hid (HD5.out.below hb6 HD5.out.lt)
      have HB6 := Lib.hid (HB5.out.trans (hb6.mono HB5.out.size))
      clear hr hb6 f0 f1 f2 f3 f4 f5 f6 f7 g0 g1 g2
      obtain ⟨f0, f1, f2, f3, f4, f5, f6, f7⟩ := HC6.out.facts
      obtain ⟨g0, g1, g2, _, _, _⟩ := HD6.out.facts
      go_wp2
      go_ret
      exact ⟨rfl, HB6.out⟩
    · have hs5 : ((s : Int) == 512) = false := by simp; omega
      have hc5 : ((c : Int) == 512) = false := by simp; omega
      obtain ⟨p, hp⟩ : ∃ p, p = 512 - c := ⟨_, rfl⟩
      obtain ⟨q, hq⟩ : ∃ q, q = 511 - c := ⟨_, rfl⟩
      rw [← hp] at H2
      rw [← hq] at H4
      have ep : (512 : Int) - (c : Int) = (p : Int) := by omega
      have hpc : p + c = 512 := by omega
      have hq5 : q < 512 := by omega
      have eq1 : (511 : Int) - (c : Int) = (q : Int) := by omega
      clear hp hq
      go_wp2_with fail
      refine (impl_PopCount b 0 s _ HB.out ⟨by omega, by omega⟩).mono ?_
      rintro e w4 ⟨r, hr, rfl, hb4⟩
      obtain rfl : r = 0 := hr.trans H1.out
      have HC4 := Lib.hid (HC3.out.below hb4 HC3.out.lt)
      have HD4 := Lib.hid (HD3.out.below hb4 HD3.out.lt)
      have HB4 := Lib.hid (HB3.out.trans (hb4.mono HB3.out.size))
      clear hr hb4 f0 f1 f2 f3 f4 f5 f6 f7 g0 g1 g2
      obtain ⟨f0, f1, f2, f3, f4, f5, f6, f7⟩ := HC4.out.facts
      obtain ⟨g0, g1, g2, _, _, _⟩ := HD4.out.facts
      go_wp2_with fail
      refine (impl_PopCount b p c _ HB.out ⟨by omega, by omega⟩).mono ?_
      rintro e w5 ⟨r, hr, rfl, hb5⟩
      obtain rfl : r = 0 := hr.trans H2.out
      have HC5 := Lib.hid (HC4.out.below hb5 HC4.out.lt)
      have HD5 := Lib.hid (HD4.out.below hb5 HD4.out.lt)
      have HB5 := Lib.hid (HB4.out.trans (hb5.mono HB4.out.size))
      clear hr hb5 f0 f1 f2 f3 f4 f5 f6 f7 g0 g1 g2
      obtain ⟨f0, f1, f2, f3, f4, f5, f6, f7⟩ := HC5.out.facts
      obtain ⟨g0, g1, g2, _, _, _⟩ := HD5.out.facts
      go_wp2_with fail
      refine (impl_Get b s _ HB.out (by omega)).mono ?_
      rintro e w6 ⟨r, hr, rfl, hb6⟩
      obtain rfl : r = 1 := hr.trans (H3.out (by omega))
      have HC6 := Lib.hid (HC5.out.below hb6 HC5.out.lt)
      have HD6 := Lib.hid (HD5.out.below hb6 HD5.out.lt)
      have HB6 := Lib.hid (HB5.out.trans (hb6.mono HB5.out.size))
      clear hr hb6 f0 f1 f2 f3 f4 f5 f6 f7 g0 g1 g2
      obtain ⟨f0, f1, f2, f3, f4, f5, f6, f7⟩ := HC6.out.facts
      obtain ⟨g0, g1, g2, _, _, _⟩ := HD6.out.facts
      go_wp2_with fail
      refine (impl_Get b q _ HB.out (by omega)).mono ?_
      rintro e w7 ⟨r, hr, rfl, hb7⟩
      obtain rfl : r = 1 := hr.trans (H4.out (by omega))
      have HC7 := Lib.hid (HC6.out.below hb7 HC6.out.lt)
      have HD7 := Lib.hid (HD6.out.below hb7 HD6.out.lt)
      have HB7 := Lib.hid (HB6.out.trans (hb7.mono HB6.out.size))
      clear hr hb7 f0 f1 f2 f3 f4 f5 f6 f7 g0 g1 g2
      obtain ⟨f0, f1, f2, f3, f4, f5, f6, f7⟩ := HC7.out.facts
      obtain ⟨g0, g1, g2, _, _, _⟩ := HD7.out.facts
      go_wp2
      go_ret
      exact ⟨rfl, HB7.out⟩
    · have hs5 : ((s : Int) == 512) = false := by simp; omega
      go_wp2_with fail
      refine (impl_PopCount b 0 s _ HB.out ⟨by omega, by omega⟩).mono ?_
      rintro e w4 ⟨r, hr, rfl, hb4⟩
      obtain rfl : r = 0 := hr.trans H1.out
      have HC4 := Lib.hid (HC3.out.below hb4 HC3.out.lt)
      have HD4 := Lib.hid (HD3.out.below hb4 HD3.out.lt)
      have HB4 := Lib.hid (HB3.out.trans (hb4.mono HB3.out.size))
      clear hr hb4 f0 f1 f2 f3 f4 f5 f6 f7 g0 g1 g2
      obtain ⟨f0, f1, f2, f3, f4, f5, f6, f7⟩ := HC4.out.facts
      obtain ⟨g0, g1, g2, _, _, _⟩ := HD4.out.facts
      go_wp2_with fail
      refine (impl_PopCount b 0 512 _ HB.out ⟨by omega, by omega⟩).mono ?_
      rintro e w5 ⟨r, hr, rfl, hb5⟩
      obtain rfl : r = 0 := hr.trans H2.out
      have HC5 := Lib.hid (HC4.out.below hb5 HC4.out.lt)
      have HD5 := Lib.hid (HD4.out.below hb5 HD4.out.lt)
      have HB5 := Lib.hid (HB4.out.trans (hb5.mono HB4.out.size))
      clear hr hb5 f0 f1 f2 f3 f4 f5 f6 f7 g0 g1 g2
      obtain ⟨f0, f1, f2, f3, f4, f5, f6, f7⟩ := HC5.out.facts
      obtain ⟨g0, g1, g2, _, _, _⟩ := HD5.out.facts
      go_wp2_with fail
      refine (impl_Get b s _ HB.out (by omega)).mono ?_
      rintro e w6 ⟨r, hr, rfl, hb6⟩
      obtain rfl : r = 1 := hr.trans (H3.out (by omega))
      have HC6 := Lib.hid (HC5.out.below hb6 HC5.out.lt)
      have HD6 := Lib.hid (HD5.out.below hb6 HD5.out.lt)
      have HB6 := Lib.hid (HB5.out.trans (hb6.mono HB5.out.size))
      clear hr hb6 f0 f1 f2 f3 f4 f5 f6 f7 g0 g1 g2
      obtain ⟨f0, f1, f2, f3, f4, f5, f6, f7⟩ := HC6.out.facts
      obtain ⟨g0, g1, g2, _, _, _⟩ := HD6.out.facts
      go_wp2
      go_ret
      exact ⟨rfl, HB6.out⟩
  · rcases (show c = 0 ∨ (0 < c ∧ c < 512) ∨ c = 512 by omega) with rfl | ⟨hc, hc2⟩ | rfl
    · go_wp2_with fail
      refine (impl_PopCount b 0 512 _ HB.out ⟨by omega, by omega⟩).mono ?_
      rintro e w4 ⟨r, hr, rfl, hb4⟩
      obtain rfl : r = 0 := hr.trans H1.out
      have HC4 := Lib.hid (HC3.out.below hb4 HC3.out.lt)
      have HD4 := Lib.hid (HD3.out.below hb4 HD3.out.lt)
      have HB4 := Lib.hid (HB3.out.trans (hb4.mono HB3.out.size))
      clear hr hb4 f0 f1 f2 f3 f4 f5 f6 f7 g0 g1 g2
      obtain ⟨f0, f1, f2, f3, f4, f5, f6, f7⟩ := HC4.out.facts
      obtain ⟨g0, g1, g2, _, _, _⟩ := HD4.out.facts
      go_wp2_with fail
      refine (impl_Get b 511 _ HB.out (by omega)).mono ?_
      rintro e w5 ⟨r, hr, rfl, hb5⟩
      obtain rfl : r = 1 := hr.trans (H4.out (by omega))
      have HC5 := Lib.hid (HC4.out.below hb5 HC4.out.lt)
      have HD5 := Lib.hid (HD4.out.below hb5 HD4.out.lt)
      have HB5 := Lib.hid (HB4.out.trans (hb5.mono HB4.out.size))
      clear hr hb5 f0 f1 f2 f3 f4 f5 f6 f7 g0 g1 g2
      obtain ⟨f0, f1, f2, f3, f4, f5, f6, f7⟩ := HC5.out.facts
      obtain ⟨g0, g1, g2, _, _, _⟩ := HD5.out.facts
      go_wp2
      go_ret
      exact ⟨rfl, HB5.out⟩
    · have hc5 : ((c : Int) == 512) = false := by simp; omega
      obtain ⟨p, hp⟩ : ∃ p, p = 512 - c := ⟨_, rfl⟩
      obtain ⟨q, hq⟩ : ∃ q, q = 511 - c := ⟨_, rfl⟩
      rw [← hp] at H2
      rw [← hq] at H4
      have ep : (512 : Int) - (c : Int) = (p : Int) := by omega
      have hpc : p + c = 512 := by omega
      have hq5 : q < 512 := by omega
      have eq1 : (511 : Int) - (c : Int) = (q : Int) := by omega
      clear hp hq
      go_wp2_with fail
      refine (impl_PopCount b 0 512 _ HB.out ⟨by omega, by omega⟩).mono ?_
      rintro e w4 ⟨r, hr, rfl, hb4⟩
      obtain rfl : r = 0 := hr.trans H1.out
      have HC4 := Lib.hid (HC3.out.below hb4 HC3.out.lt)
      have HD4 := Lib.hid (HD3.out.below hb4 HD3.out.lt)
      have HB4 := Lib.hid (HB3.out.trans (hb4.mono HB3.out.size))
      clear hr hb4 f0 f1 f2 f3 f4 f5 f6 f7 g0 g1 g2
      obtain ⟨f0, f1, f2, f3, f4, f5, f6, f7⟩ := HC4.out.facts
      obtain ⟨g0, g1, g2, _, _, _⟩ := HD4.out.facts
      go_wp2_with fail
      refine (impl_PopCount b p c _ HB.out ⟨by omega, by omega⟩).mono ?_
      rintro e w5 ⟨r, hr, rfl, hb5⟩
      obtain rfl : r = 0 := hr.trans H2.out
      have HC5 := Lib.hid (HC4.out.below hb5 HC4.out.lt)
      have HD5 := Lib.hid (HD4.out.below hb5 HD4.out.lt)
      have HB5 := Lib.hid (HB4.out.trans (hb5.mono HB4.out.size))
      clear hr hb5 f0 f1 f2 f3 f4 f5 f6 f7 g0 g1 g2
      obtain ⟨f0, f1, f2, f3, f4, f5, f6, f7⟩ := HC5.out.facts
      obtain ⟨g0, g1, g2, _, _, _⟩ := HD5.out.facts
      go_wp2_with fail
      refine (impl_Get b q _ HB.out (by omega)).mono ?_
      rintro e w6 ⟨r, hr, rfl, hb6⟩
      obtain rfl : r = 1 := hr.trans (H4.out (by omega))
      have HC6 := Lib.hid (HC5.out.below hb6 HC5.out.lt)
      have HD6 := Lib.hid (HD5.out.below hb6 HD5.out.lt)
      have HB6 := Lib.hid (HB5.out.trans (hb6.mono HB5.out.size))
      clear hr hb6 f0 f1 f2 f3 f4 f5 f6 f7 g0 g1 g2
      obtain ⟨f0, f1, f2, f3, f4, f5, f6, f7⟩ := HC6.out.facts
      obtain ⟨g0, g1, g2, _, _, _⟩ := HD6.out.facts
      go_wp2
      go_ret
      exact ⟨rfl, HB6.out⟩
    · go_wp2_with fail
      refine (impl_PopCount b 0 512 _ HB.out ⟨by omega, by omega⟩).mono ?_
      rintro e w4 ⟨r, hr, rfl, hb4⟩
      obtain rfl : r = 0 := hr.trans H1.out
      have HC4 := Lib.hid (HC3.out.below hb4 HC3.out.lt)
      have HD4 := Lib.hid (HD3.out.below hb4 HD3.out.lt)
      have HB4 := Lib.hid (HB3.out.trans (hb4.mono HB3.out.size))
      clear hr hb4 f0 f1 f2 f3 f4 f5 f6 f7 g0 g1 g2
      obtain ⟨f0, f1, f2, f3, f4, f5, f6, f7⟩ := HC4.out.facts
      obtain ⟨g0, g1, g2, _, _, _⟩ := HD4.out.facts
      go_wp2_with fail
      refine (impl_PopCount b 0 512 _ HB.out ⟨by omega, by omega⟩).mono ?_
      rintro e w5 ⟨r, hr, rfl, hb5⟩
      obtain rfl : r = 0 := hr.trans H2.out
      have HC5 := Lib.hid (HC4.out.below hb5 HC4.out.lt)
      have HD5 := Lib.hid (HD4.out.below hb5 HD4.out.lt)
      have HB5 := Lib.hid (HB4.out.trans (hb5.mono HB4.out.size))
      clear hr hb5 f0 f1 f2 f3 f4 f5 f6 f7 g0 g1 g2
      obtain ⟨f0, f1, f2, f3, f4, f5, f6, f7⟩ := HC5.out.facts
      obtain ⟨g0, g1, g2, _, _, _⟩ := HD5.out.facts
      go_wp2
      go_ret
      exact ⟨rfl, HB5.out⟩

end Go.Proofs.YtkocngnpkfnblaaDoor.fnSummaryEnds
