/- seats: P. The exports Pack, Unpack, Parts. -/
import Derived.Test.YtkocngnpkfnblaaWU
namespace Go.Proofs.Ytkocngnpkfnblaa
open Go.RowKit

set_option maxRecDepth 100000 in
set_option maxHeartbeats 400000 in
theorem impl_Pack (s m e : Nat) (w : World) (h : Sums s m e) :
    Calls Try.prog 28 #[.agg #[.int .u64 (s : Int), .int .u64 (m : Int), .int .u64 (e : Int)]] w fun en w' => en = .returned (.int .u64 (packN s m e : Nat)) ∧ Below w.heap.size w w' := by
  have HS := Lib.hid h
  clear h
  go_enter Try.func28, Try.ntmps28
  go_wp2_with (first | (go_at_call 55; refine (pack_any s m e _ HS.out).mono ?_; rintro en w1 ⟨rfl, rfl⟩) | go_in)
  go_ret
  exact ⟨rfl, by go_grown⟩

set_option maxRecDepth 100000 in
set_option maxHeartbeats 400000 in
theorem pub_Unpack (s m e : Nat) (w : World) (h : Sums s m e) :
    Calls Try.prog 43 #[.int .u64 (packN s m e : Nat)] w (GiveSum w s m e) := by
  have HS := Lib.hid h
  clear h
  go_enter Try.func43, Try.ntmps43
  go_wp2_with fail
  refine (unpackSum_any s m e _ HS.out).mono ?_
  rintro en w1 ⟨rfl, hb⟩
  have hz := (Cells3.zero w w.heap.size 63 rfl).below hb (by simp)
  have hbel : Below w.heap.size w w1 := ((Below.refl _ _).alloc (Nat.le_refl _) _).trans (hb.mono (by simp))
  obtain ⟨f0, f1, f2, z0, z1, z2⟩ := hz.facts
  clear hb
  go_wp2
  exact bodyPost_ret (results_cell_row rfl _ _ w.heap.size 63 _ (0, 0) _ rfl (hz.fill s m e) Try.underlying63 rfl (by kernel_rfl)) rfl ⟨rfl, below_fill3 hbel (Nat.le_refl _) s m e⟩

set_option maxRecDepth 100000 in
set_option maxHeartbeats 400000 in
theorem impl_Unpack (s m e : Nat) (w : World) (h : Sums s m e) :
    Calls Try.prog 29 #[.int .u64 (packN s m e : Nat)] w (GiveSum w s m e) := by
  have HS := Lib.hid h
  clear h
  go_enter Try.func29, Try.ntmps29
  go_wp2_with fail
  refine (pub_Unpack s m e _ HS.out).mono ?_
  rintro en w1 ⟨rfl, hb⟩
  have hz := (Cells3.zero w w.heap.size 44 rfl).below hb (by simp)
  have hbel : Below w.heap.size w w1 := ((Below.refl _ _).alloc (Nat.le_refl _) _).trans (hb.mono (by simp))
  obtain ⟨f0, f1, f2, z0, z1, z2⟩ := hz.facts
  clear hb
  go_wp2
  exact bodyPost_ret (results_cell_row rfl _ _ w.heap.size 44 _ (0, 0) _ rfl (hz.fill s m e) Try.underlying44 rfl (by kernel_rfl)) rfl ⟨rfl, below_fill3 hbel (Nat.le_refl _) s m e⟩

set_option maxRecDepth 100000 in
set_option maxHeartbeats 400000 in
theorem part_any (s m e : Nat) (w : World) (h : Sums s m e) :
    Calls Try.prog 57 #[.int .u64 (packN s m e : Nat)] w (fun en w' => en = .returned (.int .u64 (s : Int)) ∧ w = w') ∧
    Calls Try.prog 58 #[.int .u64 (packN s m e : Nat)] w (fun en w' => en = .returned (.int .u64 (m : Int)) ∧ w = w') ∧
    Calls Try.prog 59 #[.int .u64 (packN s m e : Nat)] w (fun en w' => en = .returned (.int .u64 (e : Int)) ∧ w = w') := by
  rcases h with h | h
  · obtain ⟨e0, e1, e2, e3⟩ := parts_num h
    generalize packN s m e = p at *
    refine ⟨?_, ?_, ?_⟩
    · go_enter Try.func57, Try.ntmps57
      go_wp2
      go_ret
      exact ⟨rfl, rfl⟩
    · go_enter Try.func58, Try.ntmps58
      go_wp2
      go_ret
      exact ⟨rfl, rfl⟩
    · go_enter Try.func59, Try.ntmps59
      go_wp2
      go_ret
      exact ⟨rfl, rfl⟩
  · obtain ⟨rfl, rfl, rfl⟩ := h
    have e0 := full_num
    generalize packN 2097152 2097152 2097152 = p at *
    refine ⟨?_, ?_, ?_⟩
    · go_enter Try.func57, Try.ntmps57
      go_wp2
      go_ret
      exact ⟨rfl, rfl⟩
    · go_enter Try.func58, Try.ntmps58
      go_wp2
      go_ret
      exact ⟨rfl, rfl⟩
    · go_enter Try.func59, Try.ntmps59
      go_wp2
      go_ret
      exact ⟨rfl, rfl⟩

set_option maxRecDepth 100000 in
set_option maxHeartbeats 400000 in
theorem pub_Parts (s m e : Nat) (w : World) (h : Sums s m e) :
    Calls Try.prog 44 #[.int .u64 (packN s m e : Nat)] w (GiveSum w s m e) := by
  have HS := Lib.hid h
  clear h
  generalize hp : packN s m e = p
  have HP := Lib.hid hp
  clear hp
  go_enter Try.func44, Try.ntmps44
  go_wp2_with fail
  rw [← HP.out]
  refine (part_any s m e _ HS.out).1.mono ?_
  rintro en w1 ⟨rfl, rfl⟩
  rw [HP.out]
  go_wp2_with fail
  rw [← HP.out]
  refine (part_any s m e _ HS.out).2.1.mono ?_
  rintro en w1 ⟨rfl, rfl⟩
  rw [HP.out]
  go_wp2_with fail
  rw [← HP.out]
  refine (part_any s m e _ HS.out).2.2.mono ?_
  rintro en w1 ⟨rfl, rfl⟩
  rw [HP.out]
  go_wp2
  exact bodyPost_ret (v := .agg #[.int .u64 (s : Int), .int .u64 (m : Int), .int .u64 (e : Int)]) (by simp [results, Try.results44, go_sem]) rfl ⟨rfl, (Below.refl _ _).alloc (Nat.le_refl _) _⟩

set_option maxRecDepth 100000 in
set_option maxHeartbeats 400000 in
theorem impl_Parts (s m e : Nat) (w : World) (h : Sums s m e) :
    Calls Try.prog 30 #[.int .u64 (packN s m e : Nat)] w (GiveSum w s m e) := by
  have HS := Lib.hid h
  clear h
  go_enter Try.func30, Try.ntmps30
  go_wp2_with fail
  refine (pub_Parts s m e _ HS.out).mono ?_
  rintro en w1 ⟨rfl, hb⟩
  have hz := (Cells3.zero w w.heap.size 44 rfl).below hb (by simp)
  have hbel : Below w.heap.size w w1 := ((Below.refl _ _).alloc (Nat.le_refl _) _).trans (hb.mono (by simp))
  obtain ⟨f0, f1, f2, z0, z1, z2⟩ := hz.facts
  clear hb
  go_wp2
  exact bodyPost_ret (results_cell_row rfl _ _ w.heap.size 44 _ (0, 0) _ rfl (hz.fill s m e) Try.underlying44 rfl (by kernel_rfl)) rfl ⟨rfl, below_fill3 hbel (Nat.le_refl _) s m e⟩
end Go.Proofs.Ytkocngnpkfnblaa
