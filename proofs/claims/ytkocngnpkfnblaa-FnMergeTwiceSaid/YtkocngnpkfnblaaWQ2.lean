/- seats: P. The walk of spec.Block. -/
import Derived.Test.YtkocngnpkfnblaaWX
import Derived.Test.YtkocngnpkfnblaaMN
namespace Go.Proofs.Ytkocngnpkfnblaa
open Go.RowKit

theorem Lst.take {w : World} {base g cap K L : Nat} {ws : Nat → Nat} (h : Lst w base (.slice (some ⟨g, 0, none⟩) L cap) (pg ws L)) (hK : K ≤ L) (hL : 1 ≤ L) : Lst w base (.slice (some ⟨g, 0, none⟩) K cap) (pg ws K) := by
  obtain ⟨h1, h2⟩ := h
  rw [pg_length] at h2
  refine ⟨by simp [pg_length], ?_⟩
  rw [pg_length]
  rcases h2 with ⟨_, h0⟩ | ⟨g', cap', cur, hv, hg, hh, hn, hm, hs, ht⟩
  · omega
  · cases hv
    refine .inr ⟨g, cap, cur, rfl, hg, hh, by omega, hm, hs, ?_⟩
    have : cur.toList.take (K * 1) = (cur.toList.take (L * 1)).take (K * 1) := by rw [List.take_take, Nat.min_eq_left (by omega)]
    rw [this, ht, ← List.map_take]
    congr 1
    unfold pg
    rw [← List.map_take, List.take_range, Nat.mul_one, Nat.min_eq_left hK]

set_option maxRecDepth 100000 in
set_option maxHeartbeats 800000 in
theorem block_any (x k K : Nat) (hx : x < 4294967296) (hk : k ≤ 5) (hK : K = 2 ^ k) (w : World) :
    Calls Try.prog 31 #[.int .u32 (x : Int), .int .u64 (k : Int)] w (RetLst w (pg (fun _ => x) K)) := by
  have hK2 : 1 ≤ K ∧ K ≤ 32 := by
    rw [hK]
    match k, hk with
    | 0, _ | 1, _ | 2, _ | 3, _ | 4, _ | 5, _ => exact ⟨by decide, by decide⟩
  have e1 : IntKind.i64.wrap (2 ^ k) = (K : Int) := by rw [powN, ← hK]; exact IntWalk.i64_in _ ⟨by omega, by omega⟩
  have e2 : IntKind.u64.wrap (x : Int) = (x : Int) := IntWalk.u64_in _ (by omega)
  clear hK
  go_enter Try.func31, Try.ntmps31
  go_wp2_with fail
  refine (pages_any w.heap.size 1 1 (fun _ => x) (by decide) _ (by simp) (fun _ _ => by show x < 18446744073709551616; omega) (fun j hj => by
    obtain rfl : j = 0 := by omega
    rw [cell_of_row _ _ _ _ _ _ (heap_alloc_new w _)]
    rfl)).mono ?_
  rintro e w1 ⟨v, rfl, hl, hbel⟩
  have hb1 : Below w.heap.size w w1 := ((Below.refl _ _).alloc (Nat.le_refl _) _).trans (hbel.mono (by simp))
  have HB1 := Lib.hid hb1
  have hl2 : Lst w1 w.heap.size v (pg (fun _ => x) (64 * 1)) := by
    refine ⟨hl.1, ?_⟩
    rcases hl.2 with h | ⟨g, cap, cur, a, b, c⟩
    · exact .inl h
    · exact .inr ⟨g, cap, cur, a, by simp at b; omega, c⟩
  obtain ⟨_, hx2⟩ := hl2
  rw [pg_length] at hx2
  rcases hx2 with ⟨_, h0⟩ | ⟨g, cap, cur, rfl, hg, hh, hn, hm, hs, ht⟩
  · omega
  · have hl3 : Lst w1 w.heap.size (.slice (some ⟨g, 0, none⟩) (64 * 1) cap) (pg (fun _ => x) (64 * 1)) := by
      refine ⟨by simp [pg_length], ?_⟩
      rw [pg_length]
      exact .inr ⟨g, cap, cur, rfl, hg, hh, hn, hm, hs, ht⟩
    have HL := Lib.hid (hl3.take (K := K) (by omega) (by decide))
    unfold maxLen at hm
    clear hl hl3 hh hs ht hb1 hbel
    go_wp2
    trace_state
    go_ret
    exact ⟨_, rfl, HL.out, HB1.out⟩
end Go.Proofs.Ytkocngnpkfnblaa
