/- seats: P. Two rows of summaries of the walk's own that are apart; what the merging calls tell of summaries that are known. -/
import Derived.Test.YtkocngnpkfnblaaWR3
import Derived.Test.YtkocngnpkfnblaaMT
import Derived.Deep.AppendLies
namespace Go.Proofs.Ytkocngnpkfnblaa
open Go.ChangeShapes Go.WideShapes Go.ChangeAt Go.RowKit

/-- two slices lie in two blocks -/
def Apart (v v' : Value) : Prop := ∀ q, v.ownBlock = some q → ¬ (v'.ownBlock = some q)
theorem Apart.nil {v : Value} : Apart (.slice none 0 0) v := fun q h => by cases h
theorem owns_apart {w w' : World} {b1 e1 s1 n1 : Nat} {v1 v2 : Value} {x1 : List Value} (h1 : w.ownsRow b1 e1 s1 v1 n1 x1) (ha : Apart v1 v2) (hg : w.grownBy w' v2.ownBlock) : w'.ownsRow b1 e1 s1 v1 n1 x1 := by
  have ho := h1
  refine ⟨h1.1, ?_⟩
  rcases h1.2 with h | ⟨g, cap, cur, rfl, hb, hh, r⟩
  · exact .inl h
  · exact .inr ⟨g, cap, cur, rfl, hb, (hg.block g (World.ownsRow.lt ho g rfl).2 (fun hc => ha g rfl hc.symm)).trans hh, r⟩
theorem Apart.symm {v v' : Value} (h : Apart v v') : Apart v' v := fun q h1 h2 => h q h2 h1
/-- a row of the walk's own and one that lies in newer blocks -/
theorem apart_newer {w w' : World} {b1 e1 s1 n1 b2 e2 s2 n2 : Nat} {v1 v2 : Value} {x1 x2 : List Value} (h1 : w.ownsRow b1 e1 s1 v1 n1 x1) (h2 : w'.ownsRow b2 e2 s2 v2 n2 x2) (hb : w.heap.size ≤ b2) : Apart v1 v2 := fun q k1 k2 => by
  have a := (World.ownsRow.lt h1 q k1).2
  have b := (World.ownsRow.lt h2 q k2).1
  omega
/-- what an append leaves of the slice's place -/
theorem apart_append {w : World} {b2 e2 s2 n2 : Nat} {v v' v2 : Value} {x2 : List Value} {H : Nat} (ha : Apart v v2) (h2 : w.ownsRow b2 e2 s2 v2 n2 x2) (hH : w.heap.size ≤ H) (h : v'.ownBlock = v.ownBlock ∨ v'.ownBlock = some H) : Apart v' v2 := fun q k1 k2 => by
  rcases h with h | h
  · exact ha q (h.symm.trans k1) k2
  · have hq : H = q := Option.some.inj (h.symm.trans k1)
    have := (World.ownsRow.lt h2 q k2).2
    omega
theorem add_add (x : Addr) (p t : Nat) : (x.add p).add t = x.add (p + t) := by
  unfold Addr.add
  by_cases hp : p = 0
  · subst hp; simp
  · by_cases ht : t = 0
    · subst ht; simp
    · rw [if_neg ht, if_neg hp, if_neg (by omega)]
      simp [Nat.add_assoc]
theorem trip_add (s m e : Nat → Nat) (a : Nat) : ∀ b, trip s m e (a + b) = trip s m e a ++ trip (fun i => s (a + i)) (fun i => m (a + i)) (fun i => e (a + i)) b
  | 0 => by simp [trip]
  | b + 1 => by
    rw [← Nat.add_assoc]
    show trip s m e (a + b) ++ _ = _
    rw [trip_add s m e a b, List.append_assoc]
    rfl
theorem trip_one (s m e : Nat → Nat) (v : Value) : v ∈ trip s m e 0 → False := fun h => by cases h
theorem trip_cells (s m e : Nat → Nat) : ∀ n, ∀ u ∈ trip s m e n, u.oneCell' = true
  | 0 => fun u hu => by cases hu
  | n + 1 => fun u hu => by
    rcases List.mem_append.1 hu with h | h
    · exact trip_cells s m e n u h
    · simp at h
      rcases h with rfl | rfl | rfl <;> rfl
/-- the cells of a row of the walk's own, as an append reads them -/
theorem news_own {w : World} {base T size n g cap : Nat} {l : List Value} (h : w.ownsRow base T size (.slice (some ⟨g, 0, none⟩) n cap) n l) : ∀ j u, l[j]? = some u → w.cell? ((⟨g, 0, none⟩ : Addr).add j) = some u := fun j u hu => by
  have hl : l.length = n * size := h.1
  have hj : j < n * size := by
    apply Nat.lt_of_not_le
    intro hle
    rw [List.getElem?_eq_none (by omega)] at hu
    cases hu
  have hc := h.cellAt j (by omega)
  rw [hu] at hc
  unfold Addr.add
  split
  · rename_i h0; subst h0; exact hc
  · simpa using hc
theorem impl_Merge_eq (u : Nat → Bool) (K lg n a b c : Nat) (s m e : Nat → Nat) (hu : IsSum u (n * K) a b c) (hK : K = 2 ^ lg) (hlg : lg < 21) (hn : 1 ≤ n) (hnK : n * K < 2097152) (hp : Parts u K n s m e) (B : Nat) (v : Value) (w : World) (hB : B ≤ w.heap.size) (hr : Read3 w B v n s m e) :
    Calls Try.prog 33 #[v, .int .u64 (lg : Int)] w (GiveSum w a b c) :=
  (impl_Merge u K lg n s m e hK hlg hn hnK hp B v w hB hr).mono fun _ _ ⟨x, y, z, h, he, hw⟩ => by
    obtain ⟨rfl, rfl, rfl⟩ := h.unique hu
    exact ⟨he, hw⟩
theorem read3_one {w : World} {g T s m e : Nat} (h : Cells3 w g T s m e) : Read3 w w.heap.size (.slice (some ⟨g, 0, none⟩) 1 1) 1 (fun _ => s) (fun _ => m) (fun _ => e) := by
  obtain ⟨f0, f1, f2, _⟩ := h.facts
  exact ⟨g, 1, rfl, h.lt, Nat.le_refl _, by decide, fun i hi => by
    obtain rfl : i = 0 := by omega
    exact ⟨f0, f1, f2⟩⟩
theorem keepN {n x y z : Nat} {W0 W w2 : World} (hb : Below W.heap.size W w2) (h : ((W.cell? ⟨n, 0, none⟩ = some (.int .u64 (x : Int)) ∧ W.cell? ⟨n, 1, none⟩ = some (.int .u64 (y : Int)) ∧ W.cell? ⟨n, 2, none⟩ = some (.int .u64 (z : Int)) ∧ Below (n + 1) W0 W ∧ n < W.heap.size)) ∧ Below W0.heap.size W0 W) : ((w2.cell? ⟨n, 0, none⟩ = some (.int .u64 (x : Int)) ∧ w2.cell? ⟨n, 1, none⟩ = some (.int .u64 (y : Int)) ∧ w2.cell? ⟨n, 2, none⟩ = some (.int .u64 (z : Int)) ∧ Below (n + 1) W0 w2 ∧ n < w2.heap.size)) ∧ Below W0.heap.size W0 w2 :=
  ⟨keep3 hb h.1, h.2.trans (hb.mono h.2.size)⟩
end Go.Proofs.Ytkocngnpkfnblaa
