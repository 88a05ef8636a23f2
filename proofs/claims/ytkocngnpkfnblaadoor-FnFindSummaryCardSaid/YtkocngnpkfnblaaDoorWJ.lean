/- seats: D. The exports that search, and Summarize. (Written by gen_finds.py.) -/
import Derived.Test.YtkocngnpkfnblaaDoorWI
import Derived.Test.YtkocngnpkfnblaaDoorWT
import Derived.Test.YtkocngnpkfnblaaDoorWE
import Derived.Test.YtkocngnpkfnblaaDoorWN
namespace Go.Proofs.YtkocngnpkfnblaaDoor
open Go.RowKit

theorem Seen.found {u : Nat → Bool} {r : Nat} (h : Seen u 512 r) : Found u 1 r r := by
  rcases h with ⟨h1, h2⟩ | ⟨h1, h2, h3⟩
  · refine .inr ⟨h1, fun k hk => ?_⟩
    have := hk.2 k (Nat.le_refl _) (by omega)
    rw [h2 k (by have := hk.1; omega)] at this
    cases this
  · refine .inl ⟨h1, .inl ⟨h1, ⟨by omega, fun k a c => ?_⟩, fun k hk hf => ?_⟩, .inr ⟨h1, h2, h3⟩⟩
    · rwa [show k = r from by omega]
    · have := hf.2 k (Nat.le_refl _) (by omega)
      rw [h3 k hk] at this
      cases this

theorem find1_same (g t : Nat) (b : Nat → Nat) (s : Nat) (hs : s ≤ 512) (hu : ∀ k, k < s → bt b k = true) (w : World) (hT : Tab w) (hb : Words b) (hc : Cells8 w g t b) :
    Calls Tryd.prog 52 #[.pointer (some ⟨g, 0, none⟩), .int .u64 (s : Int)] w (SameU w (Seen (bt b) 512)) :=
  (find1_any g t b s hs hu w hT hb hc).mono fun _ _ ⟨⟨r, h1, h2⟩, hw⟩ => ⟨r, h1, h2, hw⟩
theorem small_same (g t : Nat) (b : Nat → Nat) (n s : Nat) (hn : 1 ≤ n ∧ n ≤ 64) (hs : s ≤ 512) (hu : ∀ k, k < s → bt b k = true) (w : World) (hT : Tab w) (hb : Words b) (hc : Cells8 w g t b) :
    Calls Tryd.prog 55 #[.pointer (some ⟨g, 0, none⟩), .int .u64 (n : Int), .int .u64 (s : Int)] w (SameU2 w (Found (bt b) n)) :=
  (small_any g t b n s hn.1 hn.2 hs hu w hT hb hc).mono fun _ _ ⟨⟨r, q, h1, h2⟩, hw⟩ => ⟨r, q, h1, h2, hw⟩
theorem large_same (g t : Nat) (b : Nat → Nat) (n s : Nat) (hn : 65 ≤ n ∧ n ≤ 512) (hs : s ≤ 512) (hu : ∀ k, k < s → bt b k = true) (w : World) (hT : Tab w) (hb : Words b) (hc : Cells8 w g t b) :
    Calls Tryd.prog 54 #[.pointer (some ⟨g, 0, none⟩), .int .u64 (n : Int), .int .u64 (s : Int)] w (SameU2 w (Found (bt b) n)) :=
  (large_any g t b n s hn.1 hn.2 hs hu w hT hb hc).mono fun _ _ ⟨⟨r, q, h1, h2⟩, hw⟩ => ⟨r, q, h1, h2, hw⟩

set_option maxRecDepth 100000 in
set_option maxHeartbeats 400000 in
theorem find_same (g t : Nat) (b : Nat → Nat) (n s : Nat) (hn : 1 ≤ n ∧ n ≤ 512) (hs : s ≤ 512) (hu : ∀ k, k < s → bt b k = true) (w : World) (hT : Tab w) (hb : Words b) (hc : Cells8 w g t b) :
    Calls Tryd.prog 49 #[.pointer (some ⟨g, 0, none⟩), .int .u64 (n : Int), .int .u64 (s : Int)] w (SameU2 w (Found (bt b) n)) := by
  have HB := Lib.hid hb
  have HC := Lib.hid hc
  have HU := Lib.hid hu
  have HT := Lib.hid hT
  clear hb hc hu hT
  go_enter Tryd.func49, Tryd.ntmps49
  by_cases h1 : n = 1
  · have hd : ((n : Int) == 1) = true := by simp; omega
    go_wp2_with fail
    refine (find1_same g t b s hs HU.out _ HT.out HB.out HC.out).mono ?_
    rintro e w1 ⟨r, hQ, rfl, rfl⟩
    have HQ := Lib.hid hQ.found
    clear hQ
    go_wp2
    go_ret2
    exact ⟨r, r, by rw [h1]; exact HQ.out, rfl, rfl⟩
  · have hd : ((n : Int) == 1) = false := by simp; omega
    by_cases h64 : n ≤ 64
    · go_wp2_with fail
      refine (small_same g t b n s ⟨hn.1, h64⟩ hs HU.out _ HT.out HB.out HC.out).mono ?_
      rintro e w1 ⟨r, r2, hQ, rfl, rfl⟩
      have HQ := Lib.hid hQ
      clear hQ
      go_wp2
      go_ret2
      exact ⟨r, r2, HQ.out, rfl, rfl⟩
    · go_wp2_with fail
      refine (large_same g t b n s ⟨by omega, hn.2⟩ hs HU.out _ HT.out HB.out HC.out).mono ?_
      rintro e w1 ⟨r, r2, hQ, rfl, rfl⟩
      have HQ := Lib.hid hQ
      clear hQ
      go_wp2
      go_ret2
      exact ⟨r, r2, HQ.out, rfl, rfl⟩

set_option maxRecDepth 100000 in
set_option maxHeartbeats 400000 in
theorem pub_Find (b : Nat → Nat) (n s : Nat) (w : World) (hT : Tab w) (hb : Words b) (hn : 1 ≤ n ∧ n ≤ 512) (hs : s ≤ 512) (hu : ∀ k, k < s → bt b k = true) :
    Calls Tryd.prog 36 #[(.agg #[.int .u64 (b 0), .int .u64 (b 1), .int .u64 (b 2), .int .u64 (b 3), .int .u64 (b 4), .int .u64 (b 5), .int .u64 (b 6), .int .u64 (b 7)]), .int .u64 (n : Int), .int .u64 (s : Int)] w (RetU2 w (Found (bt b) n)) := by
  have HB := Lib.hid hb
  have HT := Lib.hid hT
  have HU := Lib.hid hu
  clear hb hT hu
  go_enter Tryd.func36, Tryd.ntmps36
  go_wp2_with fail
  refine (find_same _ 58 b n s hn hs HU.out _ ?_ HB.out ?_).mono ?_
  · exact (HT.out.alloc _).alloc _
  · exact Cells8.new' _ _ _ _ (by simp)
  rintro e w1 ⟨r, r2, hQ, rfl, rfl⟩
  have HQ := Lib.hid hQ
  clear hQ
  go_wp2
  go_ret2
  exact ⟨r, r2, HQ.out, rfl, below_two _ _ _⟩

set_option maxRecDepth 100000 in
set_option maxHeartbeats 400000 in
theorem impl_Find (b : Nat → Nat) (n s : Nat) (w : World) (hT : Tab w) (hb : Words b) (hn : 1 ≤ n ∧ n ≤ 512) (hs : s ≤ 512) (hu : ∀ k, k < s → bt b k = true) :
    Calls Tryd.prog 20 #[(.agg #[.int .u64 (b 0), .int .u64 (b 1), .int .u64 (b 2), .int .u64 (b 3), .int .u64 (b 4), .int .u64 (b 5), .int .u64 (b 6), .int .u64 (b 7)]), .int .u64 (n : Int), .int .u64 (s : Int)] w (RetU2 w (Found (bt b) n)) := by
  have HB := Lib.hid hb
  have HT := Lib.hid hT
  have HU := Lib.hid hu
  clear hb hT hu
  go_enter Tryd.func20, Tryd.ntmps20
  go_wp2_with fail
  refine (pub_Find b n s _ ?_ HB.out hn hs HU.out).mono ?_
  · exact HT.out.alloc _
  rintro e w1 ⟨r, r2, hQ, rfl, hbel⟩
  have HQ := Lib.hid hQ
  have HBL := Lib.hid (((Below.refl w.heap.size w).alloc (Nat.le_refl _) (.cells #[.int .u64 (b 0), .int .u64 (b 1), .int .u64 (b 2), .int .u64 (b 3), .int .u64 (b 4), .int .u64 (b 5), .int .u64 (b 6), .int .u64 (b 7)] 23)).trans (hbel.mono (by simp)))
  clear hQ hbel
  go_wp2
  go_ret2
  exact ⟨r, r2, HQ.out, rfl, HBL.out⟩

set_option maxRecDepth 100000 in
set_option maxHeartbeats 400000 in
theorem pub_FindSmall (b : Nat → Nat) (n s : Nat) (w : World) (hT : Tab w) (hb : Words b) (hn : 1 ≤ n ∧ n ≤ 64) (hs : s ≤ 512) (hu : ∀ k, k < s → bt b k = true) :
    Calls Tryd.prog 42 #[(.agg #[.int .u64 (b 0), .int .u64 (b 1), .int .u64 (b 2), .int .u64 (b 3), .int .u64 (b 4), .int .u64 (b 5), .int .u64 (b 6), .int .u64 (b 7)]), .int .u64 (n : Int), .int .u64 (s : Int)] w (RetU2 w (Found (bt b) n)) := by
  have HB := Lib.hid hb
  have HT := Lib.hid hT
  have HU := Lib.hid hu
  clear hb hT hu
  go_enter Tryd.func42, Tryd.ntmps42
  go_wp2_with fail
  refine (small_same _ 58 b n s hn hs HU.out _ ?_ HB.out ?_).mono ?_
  · exact (HT.out.alloc _).alloc _
  · exact Cells8.new' _ _ _ _ (by simp)
  rintro e w1 ⟨r, r2, hQ, rfl, rfl⟩
  have HQ := Lib.hid hQ
  clear hQ
  go_wp2
  go_ret2
  exact ⟨r, r2, HQ.out, rfl, below_two _ _ _⟩

set_option maxRecDepth 100000 in
set_option maxHeartbeats 400000 in
theorem impl_FindSmall (b : Nat → Nat) (n s : Nat) (w : World) (hT : Tab w) (hb : Words b) (hn : 1 ≤ n ∧ n ≤ 64) (hs : s ≤ 512) (hu : ∀ k, k < s → bt b k = true) :
    Calls Tryd.prog 29 #[(.agg #[.int .u64 (b 0), .int .u64 (b 1), .int .u64 (b 2), .int .u64 (b 3), .int .u64 (b 4), .int .u64 (b 5), .int .u64 (b 6), .int .u64 (b 7)]), .int .u64 (n : Int), .int .u64 (s : Int)] w (RetU2 w (Found (bt b) n)) := by
  have HB := Lib.hid hb
  have HT := Lib.hid hT
  have HU := Lib.hid hu
  clear hb hT hu
  go_enter Tryd.func29, Tryd.ntmps29
  go_wp2_with fail
  refine (pub_FindSmall b n s _ ?_ HB.out hn hs HU.out).mono ?_
  · exact HT.out.alloc _
  rintro e w1 ⟨r, r2, hQ, rfl, hbel⟩
  have HQ := Lib.hid hQ
  have HBL := Lib.hid (((Below.refl w.heap.size w).alloc (Nat.le_refl _) (.cells #[.int .u64 (b 0), .int .u64 (b 1), .int .u64 (b 2), .int .u64 (b 3), .int .u64 (b 4), .int .u64 (b 5), .int .u64 (b 6), .int .u64 (b 7)] 23)).trans (hbel.mono (by simp)))
  clear hQ hbel
  go_wp2
  go_ret2
  exact ⟨r, r2, HQ.out, rfl, HBL.out⟩

set_option maxRecDepth 100000 in
set_option maxHeartbeats 400000 in
theorem pub_FindLarge (b : Nat → Nat) (n s : Nat) (w : World) (hT : Tab w) (hb : Words b) (hn : 65 ≤ n ∧ n ≤ 512) (hs : s ≤ 512) (hu : ∀ k, k < s → bt b k = true) :
    Calls Tryd.prog 41 #[(.agg #[.int .u64 (b 0), .int .u64 (b 1), .int .u64 (b 2), .int .u64 (b 3), .int .u64 (b 4), .int .u64 (b 5), .int .u64 (b 6), .int .u64 (b 7)]), .int .u64 (n : Int), .int .u64 (s : Int)] w (RetU2 w (Found (bt b) n)) := by
  have HB := Lib.hid hb
  have HT := Lib.hid hT
  have HU := Lib.hid hu
  clear hb hT hu
  go_enter Tryd.func41, Tryd.ntmps41
  go_wp2_with fail
  refine (large_same _ 58 b n s hn hs HU.out _ ?_ HB.out ?_).mono ?_
  · exact (HT.out.alloc _).alloc _
  · exact Cells8.new' _ _ _ _ (by simp)
  rintro e w1 ⟨r, r2, hQ, rfl, rfl⟩
  have HQ := Lib.hid hQ
  clear hQ
  go_wp2
  go_ret2
  exact ⟨r, r2, HQ.out, rfl, below_two _ _ _⟩

set_option maxRecDepth 100000 in
set_option maxHeartbeats 400000 in
theorem impl_FindLarge (b : Nat → Nat) (n s : Nat) (w : World) (hT : Tab w) (hb : Words b) (hn : 65 ≤ n ∧ n ≤ 512) (hs : s ≤ 512) (hu : ∀ k, k < s → bt b k = true) :
    Calls Tryd.prog 28 #[(.agg #[.int .u64 (b 0), .int .u64 (b 1), .int .u64 (b 2), .int .u64 (b 3), .int .u64 (b 4), .int .u64 (b 5), .int .u64 (b 6), .int .u64 (b 7)]), .int .u64 (n : Int), .int .u64 (s : Int)] w (RetU2 w (Found (bt b) n)) := by
  have HB := Lib.hid hb
  have HT := Lib.hid hT
  have HU := Lib.hid hu
  clear hb hT hu
  go_enter Tryd.func28, Tryd.ntmps28
  go_wp2_with fail
  refine (pub_FindLarge b n s _ ?_ HB.out hn hs HU.out).mono ?_
  · exact HT.out.alloc _
  rintro e w1 ⟨r, r2, hQ, rfl, hbel⟩
  have HQ := Lib.hid hQ
  have HBL := Lib.hid (((Below.refl w.heap.size w).alloc (Nat.le_refl _) (.cells #[.int .u64 (b 0), .int .u64 (b 1), .int .u64 (b 2), .int .u64 (b 3), .int .u64 (b 4), .int .u64 (b 5), .int .u64 (b 6), .int .u64 (b 7)] 23)).trans (hbel.mono (by simp)))
  clear hQ hbel
  go_wp2
  go_ret2
  exact ⟨r, r2, HQ.out, rfl, HBL.out⟩

set_option maxRecDepth 100000 in
set_option maxHeartbeats 400000 in
theorem pub_Find1 (b : Nat → Nat) (s : Nat) (w : World) (hT : Tab w) (hb : Words b) (hs : s ≤ 512) (hu : ∀ k, k < s → bt b k = true) :
    Calls Tryd.prog 39 #[(.agg #[.int .u64 (b 0), .int .u64 (b 1), .int .u64 (b 2), .int .u64 (b 3), .int .u64 (b 4), .int .u64 (b 5), .int .u64 (b 6), .int .u64 (b 7)]), .int .u64 (s : Int)] w (RetU w (Seen (bt b) 512)) := by
  have HB := Lib.hid hb
  have HT := Lib.hid hT
  have HU := Lib.hid hu
  clear hb hT hu
  go_enter Tryd.func39, Tryd.ntmps39
  go_wp2_with fail
  refine (find1_same _ 58 b s hs HU.out _ ?_ HB.out ?_).mono ?_
  · exact (HT.out.alloc _).alloc _
  · exact Cells8.new' _ _ _ _ (by simp)
  rintro e w1 ⟨r, hQ, rfl, rfl⟩
  have HQ := Lib.hid hQ
  clear hQ
  go_wp2
  go_ret
  exact ⟨r, HQ.out, rfl, below_two _ _ _⟩

set_option maxRecDepth 100000 in
set_option maxHeartbeats 400000 in
theorem impl_Find1 (b : Nat → Nat) (s : Nat) (w : World) (hT : Tab w) (hb : Words b) (hs : s ≤ 512) (hu : ∀ k, k < s → bt b k = true) :
    Calls Tryd.prog 25 #[(.agg #[.int .u64 (b 0), .int .u64 (b 1), .int .u64 (b 2), .int .u64 (b 3), .int .u64 (b 4), .int .u64 (b 5), .int .u64 (b 6), .int .u64 (b 7)]), .int .u64 (s : Int)] w (RetU w (Seen (bt b) 512)) := by
  have HB := Lib.hid hb
  have HT := Lib.hid hT
  have HU := Lib.hid hu
  clear hb hT hu
  go_enter Tryd.func25, Tryd.ntmps25
  go_wp2_with fail
  refine (pub_Find1 b s _ ?_ HB.out hs HU.out).mono ?_
  · exact HT.out.alloc _
  rintro e w1 ⟨r, hQ, rfl, hbel⟩
  have HQ := Lib.hid hQ
  have HBL := Lib.hid (((Below.refl w.heap.size w).alloc (Nat.le_refl _) (.cells #[.int .u64 (b 0), .int .u64 (b 1), .int .u64 (b 2), .int .u64 (b 3), .int .u64 (b 4), .int .u64 (b 5), .int .u64 (b 6), .int .u64 (b 7)] 23)).trans (hbel.mono (by simp)))
  clear hQ hbel
  go_wp2
  go_ret
  exact ⟨r, HQ.out, rfl, HBL.out⟩

set_option maxRecDepth 100000 in
set_option maxHeartbeats 400000 in
theorem pub_BitRange64 (c n : Nat) (w : World) (hT : Tab w) (hn : 1 ≤ n ∧ n ≤ 64) (hc : c < 18446744073709551616) :
    Calls Tryd.prog 40 #[.int .u64 (c : Int), .int .u64 (n : Int)] w (SameU w (BitRun c n)) := by
  have HT := Lib.hid hT
  clear hT
  go_enter Tryd.func40, Tryd.ntmps40
  go_wp2_with fail
  refine (range_any c n hn.1 hn.2 hc _ HT.out).mono ?_
  rintro e w1 ⟨⟨r, hQ, rfl⟩, rfl⟩
  have HQ := Lib.hid hQ
  clear hQ
  go_wp2
  go_ret
  exact ⟨r, HQ.out, rfl, rfl⟩

set_option maxRecDepth 100000 in
set_option maxHeartbeats 400000 in
theorem impl_BitRange64 (c n : Nat) (w : World) (hT : Tab w) (hn : 1 ≤ n ∧ n ≤ 64) (hc : c < 18446744073709551616) :
    Calls Tryd.prog 27 #[.int .u64 (c : Int), .int .u64 (n : Int)] w (SameU w (BitRun c n)) := by
  have HT := Lib.hid hT
  clear hT
  go_enter Tryd.func27, Tryd.ntmps27
  go_wp2_with fail
  refine (pub_BitRange64 c n _ HT.out hn hc).mono ?_
  rintro e w1 ⟨r, hQ, rfl, rfl⟩
  have HQ := Lib.hid hQ
  clear hQ
  go_wp2
  go_ret
  exact ⟨r, HQ.out, rfl, rfl⟩

theorem summarize_same (g t : Nat) (b : Nat → Nat) (w : World) (hT : Tab w) (hb : Words b) (hc : Cells8 w g t b) :
    Calls Tryd.prog 46 #[.pointer (some ⟨g, 0, none⟩)] w fun e w' => ∃ s m c : Nat, IsSum (bt b) 512 s m c ∧ e = .returned (.int .u64 (packN s m c : Nat)) ∧ w = w' :=
  (summarize_any g t b w hT hb hc).mono fun _ _ ⟨⟨s, m, c, h1, h2⟩, hw⟩ => ⟨s, m, c, h1, h2, hw⟩

set_option maxRecDepth 100000 in
set_option maxHeartbeats 400000 in
theorem pub_Summarize (b : Nat → Nat) (w : World) (hT : Tab w) (hb : Words b) :
    Calls Tryd.prog 33 #[(.agg #[.int .u64 (b 0), .int .u64 (b 1), .int .u64 (b 2), .int .u64 (b 3), .int .u64 (b 4), .int .u64 (b 5), .int .u64 (b 6), .int .u64 (b 7)])] w (RetSum w (IsSum (bt b) 512)) := by
  have HB := Lib.hid hb
  have HT := Lib.hid hT
  clear hb hT
  go_enter Tryd.func33, Tryd.ntmps33
  go_wp2_with fail
  refine (summarize_same _ 58 b _ ?_ HB.out ?_).mono ?_
  · exact ((HT.out.alloc _).alloc _).alloc _
  · exact Cells8.new' _ _ _ _ (by simp)
  rintro e w1 ⟨s, m, c, hQ, rfl, rfl⟩
  have HQ := Lib.hid hQ
  clear hQ
  generalize hp : packN s m c = p
  have HP := Lib.hid hp
  clear hp
  go_wp2_with fail
  rw [← HP.out]
  refine (unpackSum_any s m c _ (HQ.out.sums (by decide))).mono ?_
  rintro en w1 ⟨rfl, hb⟩
  have hz := ((Cells3.zero (w.alloc (.cells #[.int .u64 (b 0), .int .u64 (b 1), .int .u64 (b 2), .int .u64 (b 3), .int .u64 (b 4), .int .u64 (b 5), .int .u64 (b 6), .int .u64 (b 7)] 51)) (w.heap.size + 1) 49 (by simp)).alloc (.cells #[.int .u64 (b 0), .int .u64 (b 1), .int .u64 (b 2), .int .u64 (b 3), .int .u64 (b 4), .int .u64 (b 5), .int .u64 (b 6), .int .u64 (b 7)] 58)).below hb (by simp)
  have hbel : Below w.heap.size w w1 := (((Below.refl _ _).alloc (Nat.le_refl _) _).alloc (by simp) _ |>.alloc (by simp <;> omega) _).trans (hb.mono (by simp <;> omega))
  obtain ⟨f0, f1, f2, z0, z1, z2⟩ := hz.facts
  clear hb
  go_wp2
  exact bodyPost_ret (results_cell_row rfl _ _ (w.heap.size + 1) 49 _ (0, 0) _ rfl (hz.fill s m c) Tryd.underlying49 rfl (by kernel_rfl)) rfl ⟨s, m, c, HQ.out, rfl, below_fill3 hbel (by omega) s m c⟩

set_option maxRecDepth 100000 in
set_option maxHeartbeats 400000 in
theorem impl_Summarize (b : Nat → Nat) (w : World) (hT : Tab w) (hb : Words b) :
    Calls Tryd.prog 17 #[(.agg #[.int .u64 (b 0), .int .u64 (b 1), .int .u64 (b 2), .int .u64 (b 3), .int .u64 (b 4), .int .u64 (b 5), .int .u64 (b 6), .int .u64 (b 7)])] w (RetSum w (IsSum (bt b) 512)) := by
  have HB := Lib.hid hb
  have HT := Lib.hid hT
  clear hb hT
  go_enter Tryd.func17, Tryd.ntmps17
  go_wp2_with fail
  refine (pub_Summarize b _ ?_ HB.out).mono ?_
  · exact (HT.out.alloc _).alloc _
  rintro en w1 ⟨s, m, c, hQ, rfl, hb⟩
  have HQ := Lib.hid hQ
  clear hQ
  have hz := (Cells3.zero (w.alloc (.cells #[.int .u64 (b 0), .int .u64 (b 1), .int .u64 (b 2), .int .u64 (b 3), .int .u64 (b 4), .int .u64 (b 5), .int .u64 (b 6), .int .u64 (b 7)] 23)) (w.heap.size + 1) 26 (by simp)).below hb (by simp)
  have hbel : Below w.heap.size w w1 := (((Below.refl _ _).alloc (Nat.le_refl _) _).alloc (by simp) _).trans (hb.mono (by simp <;> omega))
  obtain ⟨f0, f1, f2, z0, z1, z2⟩ := hz.facts
  clear hb
  go_wp2
  exact bodyPost_ret (results_cell_row rfl _ _ (w.heap.size + 1) 26 _ (0, 0) _ rfl (hz.fill s m c) Tryd.underlying26 rfl (by kernel_rfl)) rfl ⟨s, m, c, HQ.out, rfl, below_fill3 hbel (by omega) s m c⟩
end Go.Proofs.YtkocngnpkfnblaaDoor
