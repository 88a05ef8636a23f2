/- seats: P D. Slices of summaries, and the walks of Merge. -/
import Derived.Test.YtkocngnpkfnblaaWM
namespace Go.Proofs.Ytkocngnpkfnblaa
open Go.RowKit

/-- the cells of n summaries -/
def trip (s m e : Nat → Nat) : Nat → List Value
  | 0 => []
  | n + 1 => trip s m e n ++ [.int .u64 (s n : Int), .int .u64 (m n : Int), .int .u64 (e n : Int)]
theorem trip_length (s m e : Nat → Nat) (n : Nat) : (trip s m e n).length = n * 3 := by
  induction n with
  | zero => rfl
  | succ n ih => simp [trip, ih]; omega
theorem trip_get (s m e : Nat → Nat) {n i : Nat} (h : i < n) : (trip s m e n)[i * 3]? = some (.int .u64 (s i : Int)) ∧ (trip s m e n)[i * 3 + 1]? = some (.int .u64 (m i : Int)) ∧ (trip s m e n)[i * 3 + 2]? = some (.int .u64 (e i : Int)) := by
  induction n with
  | zero => omega
  | succ n ih =>
    have hl := trip_length s m e n
    by_cases hi : i < n
    · obtain ⟨h1, h2, h3⟩ := ih hi
      unfold trip
      refine ⟨?_, ?_, ?_⟩ <;> rw [List.getElem?_append_left (by omega)] <;> assumption
    · obtain rfl : i = n := by omega
      unfold trip
      refine ⟨?_, ?_, ?_⟩ <;> rw [List.getElem?_append_right (by omega), hl] <;> simp
/-- n packed summaries -/
def pks (s m e : Nat → Nat) (n : Nat) : List Value := (List.range n).map fun i => .int .u64 (packN (s i) (m i) (e i) : Nat)
theorem pks_succ (s m e : Nat → Nat) (n : Nat) : pks s m e (n + 1) = pks s m e n ++ [.int .u64 (packN (s n) (m n) (e n) : Nat)] := by simp [pks, List.range_succ]
theorem pks_get (s m e : Nat → Nat) {n i : Nat} (h : i < n) : (pks s m e n)[i]? = some (.int .u64 (packN (s i) (m i) (e i) : Nat)) := by simp [pks, h]

/-- v is a slice of n summaries in a block below B -/
def Read3 (w : World) (B : Nat) (v : Value) (n : Nat) (s m e : Nat → Nat) : Prop :=
  ∃ g cap, v = .slice (some ⟨g, 0, none⟩) n cap ∧ g < B ∧ n ≤ cap ∧ cap ≤ maxLen ∧ ∀ i, i < n → w.cell? ⟨g, i * 3, none⟩ = some (.int .u64 (s i : Int)) ∧ w.cell? ⟨g, i * 3 + 1, none⟩ = some (.int .u64 (m i : Int)) ∧ w.cell? ⟨g, i * 3 + 2, none⟩ = some (.int .u64 (e i : Int))
theorem Read3.below {w w' : World} {B : Nat} {v : Value} {n : Nat} {s m e : Nat → Nat} (h : Read3 w B v n s m e) (hb : Below B w w') : Read3 w' B v n s m e := by
  obtain ⟨g, cap, rfl, hg, h1, h2, h3⟩ := h
  refine ⟨g, cap, rfl, hg, h1, h2, fun i hi => ?_⟩
  obtain ⟨a, b, c⟩ := h3 i hi
  exact ⟨(hb.cell (p := ⟨g, _, none⟩) hg).trans a, (hb.cell (p := ⟨g, _, none⟩) hg).trans b, (hb.cell (p := ⟨g, _, none⟩) hg).trans c⟩
theorem Read3.mono {w : World} {B B' : Nat} {v : Value} {n : Nat} {s m e : Nat → Nat} (h : Read3 w B v n s m e) (hb : B ≤ B') : Read3 w B' v n s m e := by
  obtain ⟨g, cap, rfl, hg, r⟩ := h
  exact ⟨g, cap, rfl, by omega, r⟩
theorem read3_own {w : World} {base T : Nat} {v : Value} {n : Nat} {s m e : Nat → Nat} (hn : 1 ≤ n) (h : w.ownsRow base T 3 v n (trip s m e n)) : Read3 w w.heap.size v n s m e := by
  have ho := h
  obtain ⟨h1, h2⟩ := h
  rcases h2 with ⟨_, h0⟩ | ⟨g, cap, cur, rfl, hb, hg, hc, hm, hs, ht⟩
  · omega
  · have hc0 : ∀ k, k < n * 3 → w.cell? ⟨g, k, none⟩ = (trip s m e n)[k]? := fun k hk => by
      rw [cell_of_row _ _ _ _ _ _ hg, ← ht, List.getElem?_take]
      simp [hk]
    refine ⟨g, cap, rfl, (World.ownsRow.lt ho g rfl).2, hc, hm, fun i hi => ?_⟩
    obtain ⟨a, b, c⟩ := trip_get s m e hi
    exact ⟨(hc0 _ (by omega)).trans a, (hc0 _ (by omega)).trans b, (hc0 _ (by omega)).trans c⟩
theorem info_pks : (Try.prog.info? 75).map (fun i => (i.zero, i.size, i.bytes)) = some (some (.int .u64 0), 1, 8) := by kernel_rfl
theorem info_sum : (Try.prog.info? 63).map (fun i => (i.zero, i.size, i.bytes)) = some (some (.agg #[.int .u64 0, .int .u64 0, .int .u64 0]), 3, 24) := by kernel_rfl
theorem info_isum : (Try.prog.info? 44).map (fun i => (i.zero, i.size, i.bytes)) = some (some (.agg #[.int .u64 0, .int .u64 0, .int .u64 0]), 3, 24) := by kernel_rfl
end Go.Proofs.Ytkocngnpkfnblaa
