/- seats: D. Summaries that are known already: what the calls tell then; a field of a summary; slices of one and of two summaries. -/
import Derived.Test.YtkocngnpkfnblaaDoorWJ
import Derived.Test.YtkocngnpkfnblaaDoorWZ2
import Derived.Test.YtkocngnpkfnblaaDoorMN
import Derived.Test.YtkocngnpkfnblaaDoorMI
namespace Go.Proofs.YtkocngnpkfnblaaDoor
open Go.RowKit

theorem sum_field (s m e : Nat) (w : World) : (Instr.field 26 (.agg #[.int .u64 (s : Int), .int .u64 (m : Int), .int .u64 (e : Int)]) 1).run Tryd.prog w = .ok (.int .u64 (m : Int)) w := by
  simp [Instr.field, run_underlying Tryd.underlying26, run_underlying Tryd.underlying24, part, isAgg, asAgg]

theorem impl_Summarize_eq (b : Nat → Nat) (s m c : Nat) (hs : IsSum (bt b) 512 s m c) (w : World) (hT : Tab w) (hb : Words b) :
    Calls Tryd.prog 17 #[(.agg #[.int .u64 (b 0), .int .u64 (b 1), .int .u64 (b 2), .int .u64 (b 3), .int .u64 (b 4), .int .u64 (b 5), .int .u64 (b 6), .int .u64 (b 7)])] w (GiveSum w s m c) :=
  (impl_Summarize b w hT hb).mono fun _ _ ⟨x, y, z, h, he, hw⟩ => by
    obtain ⟨rfl, rfl, rfl⟩ := h.unique hs
    exact ⟨he, hw⟩
/-- the summary of a list of the pages u, told by one that is known -/
theorem summary_upg (B : Nat) (v : Value) (u : Nat → Bool) (n s m e : Nat) (w : World) (hB : B ≤ w.heap.size) (hn : n ≤ 1000000) (hr : Reads w B v (upg u n)) (hs : IsSum u n s m e) :
    Calls Tryd.prog 30 #[v] w (GiveSum w s m e) :=
  (specSummary_any B v _ w hB (by rw [upg_length]; exact hn) hr).mono fun _ _ ⟨a, b, c, h, he, hb⟩ => by
    rw [upg_length] at h
    obtain ⟨rfl, rfl, rfl⟩ := (h.congr fun k hk => at_upg u hk).unique hs
    exact ⟨he, hb⟩
theorem summary_pg (B : Nat) (v : Value) (b : Nat → Nat) (s m e : Nat) (w : World) (hB : B ≤ w.heap.size) (hr : Reads w B v (pg b 512)) (hs : IsSum (bt b) 512 s m e) :
    Calls Tryd.prog 30 #[v] w (GiveSum w s m e) :=
  summary_upg B v (bt b) 512 s m e w hB (by decide) hr hs
theorem impl_Merge_eq (u : Nat → Bool) (K lg n a b c : Nat) (s m e : Nat → Nat) (hu : IsSum u (n * K) a b c) (hK : K = 2 ^ lg) (hlg : lg < 21) (hn : 1 ≤ n) (hnK : n * K < 2097152) (hp : Parts u K n s m e) (B : Nat) (v : Value) (w : World) (hB : B ≤ w.heap.size) (hr : Read3 w B v n s m e) :
    Calls Tryd.prog 32 #[v, .int .u64 (lg : Int)] w (GiveSum w a b c) :=
  (impl_Merge u K lg n s m e hK hlg hn hnK hp B v w hB hr).mono fun _ _ ⟨x, y, z, h, he, hw⟩ => by
    obtain ⟨rfl, rfl, rfl⟩ := h.unique hu
    exact ⟨he, hw⟩
/-- a slice of one summary -/
theorem read3_one {w : World} {g T s m e : Nat} (h : Cells3 w g T s m e) : Read3 w w.heap.size (.slice (some ⟨g, 0, none⟩) 1 1) 1 (fun _ => s) (fun _ => m) (fun _ => e) := by
  obtain ⟨f0, f1, f2, _⟩ := h.facts
  exact ⟨g, 1, rfl, h.lt, Nat.le_refl _, by decide, fun i hi => by
    obtain rfl : i = 0 := by omega
    exact ⟨f0, f1, f2⟩⟩
/-- .. of two -/
def two (x y : Nat) (i : Nat) : Nat := if i = 0 then x else y
theorem read3_two {w : World} {g T s m e s' m' e' : Nat} {fr : Nat × Nat} (h : w.heap[g]? = some (.cells #[.int .u64 (s : Int), .int .u64 (m : Int), .int .u64 (e : Int), .int .u64 (s' : Int), .int .u64 (m' : Int), .int .u64 (e' : Int)] T fr)) :
    Read3 w w.heap.size (.slice (some ⟨g, 0, none⟩) 2 2) 2 (two s s') (two m m') (two e e') := by
  have c : ∀ j v, (#[.int .u64 (s : Int), .int .u64 (m : Int), .int .u64 (e : Int), .int .u64 (s' : Int), .int .u64 (m' : Int), .int .u64 (e' : Int)] : Array Value)[j]? = some v → w.cell? ⟨g, j, none⟩ = some v := fun j v hj => by
    rw [cell_of_row _ _ _ _ _ _ h]; exact hj
  exact ⟨g, 2, rfl, block_lt_of_cell (c 0 _ rfl), Nat.le_refl _, by decide, fun i hi => by
    match i, hi with
    | 0, _ => exact ⟨c 0 _ rfl, c 1 _ rfl, c 2 _ rfl⟩
    | 1, _ => exact ⟨c 3 _ rfl, c 4 _ rfl, c 5 _ rfl⟩⟩
end Go.Proofs.YtkocngnpkfnblaaDoor
