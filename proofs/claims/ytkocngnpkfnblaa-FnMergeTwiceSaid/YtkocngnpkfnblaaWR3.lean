/- seats: P. Rows of the walk's own beside each other; summaries of parts; a slice of uint32 that came in. -/
import Derived.Test.YtkocngnpkfnblaaWZ2
import Derived.Test.YtkocngnpkfnblaaWQ2
import Derived.Test.YtkocngnpkfnblaaWF
namespace Go.Proofs.Ytkocngnpkfnblaa
open Go.ChangeShapes Go.WideShapes Go.ChangeAt Go.RowKit

theorem owns_later {w w' : World} {base e size : Nat} {v : Value} {n : Nat} {xs : List Value} (h : w.ownsRow base e size v n xs) (hb : Below w.heap.size w w') : w'.ownsRow base e size v n xs := by
  have ho := h
  refine ⟨h.1, ?_⟩
  rcases h.2 with h2 | ⟨g, cap, cur, rfl, hg, hh, r⟩
  · exact .inl h2
  · exact .inr ⟨g, cap, cur, rfl, hg, (hb.block g (World.ownsRow.lt ho g rfl).2).trans hh, r⟩
theorem owns_other {w w' : World} {b1 e1 s1 b2 e2 s2 : Nat} {v1 v2 : Value} {n1 n2 : Nat} {x1 x2 : List Value} (h1 : w.ownsRow b1 e1 s1 v1 n1 x1) (h2 : w.ownsRow b2 e2 s2 v2 n2 x2) (he : e1 ≠ e2) (hg : w.grownBy w' v2.ownBlock) : w'.ownsRow b1 e1 s1 v1 n1 x1 := by
  have ho := h1
  refine ⟨h1.1, ?_⟩
  rcases h1.2 with h | ⟨g, cap, cur, rfl, hb, hh, r⟩
  · exact .inl h
  · refine .inr ⟨g, cap, cur, rfl, hb, (hg.block g (World.ownsRow.lt ho g rfl).2 ?_).trans hh, r⟩
    rcases h2.2 with ⟨rfl, _⟩ | ⟨g2, cap2, cur2, rfl, _, hh2, _⟩
    · intro hc; cases hc
    · intro hc
      have hc2 : g = g2 := by simpa [Value.ownBlock] using hc
      subst hc2
      rw [hh] at hh2
      cases hh2
      exact he rfl
theorem owns_one {w : World} {g T base : Nat} {s m e : Nat → Nat} (h : Cells3 w g T (s 0) (m 0) (e 0)) (hb : base ≤ g) : w.ownsRow base T 3 (.slice (some ⟨g, 0, none⟩) 1 1) 1 (trip s m e 1) :=
  ⟨by simp [trip], .inr ⟨g, 1, _, rfl, hb, h, Nat.le_refl _, by decide, rfl, rfl⟩⟩

/-- the pages of the words x, K of each -/
def parts (x : Nat → Nat) (K : Nat) (p : Nat) : Bool := (x (p / K)).testBit (p % K)
theorem parts_pg (x : Nat → Nat) {K i : Nat} (hK : K ≤ 64) (h1 : 1 ≤ K) : pg (fun _ => x i) K = upg (fun k => parts x K (i * K + k)) K := by
  rw [pg_upg]
  refine upg_congr fun k hk => ?_
  unfold bt parts
  rw [Nat.mod_eq_of_lt (show k < 64 by omega), Nat.mul_comm i K, Nat.mul_add_div (by omega), Nat.div_eq_of_lt hk, Nat.mul_add_mod, Nat.mod_eq_of_lt hk, Nat.add_zero]
theorem parts_sum (x : Nat → Nat) (K : Nat) : ∃ s m e : Nat → Nat, ∀ i, IsSum (fun k => parts x K (i * K + k)) K (s i) (m i) (e i) := by
  have h := fun i => sum_exists (fun k => parts x K (i * K + k)) K
  exact ⟨fun i => (Classical.choose (h i)).1, fun i => (Classical.choose (h i)).2.1, fun i => (Classical.choose (h i)).2.2, fun i => Classical.choose_spec (h i)⟩

/-- the summary of a list of the pages u, told by one that is known -/
theorem summary_upg (B : Nat) (v : Value) (u : Nat → Bool) (n s m e : Nat) (w : World) (hB : B ≤ w.heap.size) (hn : n ≤ 1000000) (hr : Reads w B v (upg u n)) (hs : IsSum u n s m e) :
    Calls Try.prog 32 #[v] w (GiveSum w s m e) :=
  (specSummary_any B v _ w hB (by rw [upg_length]; exact hn) hr).mono fun _ _ ⟨a, b, c, h, he, hb⟩ => by
    rw [upg_length] at h
    obtain ⟨rfl, rfl, rfl⟩ := (h.congr fun k hk => at_upg u hk).unique hs
    exact ⟨he, hb⟩

/-- a slice of uint32 that came in: nil, or a row of the caller's with the numbers zs -/
def IsRow (w : World) (a : Option Addr) (len cap : Nat) (zs : List Int) : Prop :=
  (a = none ∧ len = 0 ∧ cap = 0 ∧ zs = []) ∨ ∃ x : Addr, a = some x ∧ len ≤ cap ∧ cap ≤ maxLen ∧ zs.length = cap ∧ (∀ i, i < zs.length → w.cell? (x.add i) = some (.int .u32 (zs.getD i 0))) ∧ ∀ n ∈ zs, (Lit.int .u32 n).wf = true
/-- .. as numbers -/
def wordOf (zs : List Int) (i : Nat) : Nat := (zs.getD i 0).toNat
theorem IsRow.word {w : World} {x : Addr} {len cap : Nat} {zs : List Int} (h1 : len ≤ cap) (h2 : zs.length = cap) (h3 : ∀ i, i < zs.length → w.cell? (x.add i) = some (.int .u32 (zs.getD i 0))) (h4 : ∀ n ∈ zs, (Lit.int .u32 n).wf = true) :
    ∀ i, i < len → wordOf zs i < 4294967296 ∧ w.cell? (x.add i) = some (.int .u32 (wordOf zs i : Int)) := by
  intro i hi
  have hm : zs.getD i 0 ∈ zs := by
    rw [List.getD_eq_getElem?_getD, List.getElem?_eq_getElem (by omega)]
    exact List.getElem_mem _
  have hb := bounds_u32 (h4 _ hm)
  have e : ((wordOf zs i : Nat) : Int) = zs.getD i 0 := Int.toNat_of_nonneg hb.1
  refine ⟨by unfold wordOf; omega, ?_⟩
  rw [e]
  exact h3 i (by omega)
end Go.Proofs.Ytkocngnpkfnblaa
