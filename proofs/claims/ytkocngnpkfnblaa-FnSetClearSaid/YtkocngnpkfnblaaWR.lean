/- seats: P D. Slices of pages that are read: what the walks are told of them; the walks of spec.Run. -/
import Derived.Test.YtkocngnpkfnblaaWG
import Derived.BigQuiet
import Derived.Deep.QuietTactic
import Derived.Handy
namespace Go.Proofs.Ytkocngnpkfnblaa
open Go.RowKit

/-- v is a slice in a block below B whose elements are the pages l -/
def Reads (w : World) (B : Nat) (v : Value) (l : List Bool) : Prop :=
  ∃ g cap, v = .slice (some ⟨g, 0, none⟩) l.length cap ∧ g < B ∧ l.length ≤ cap ∧ cap ≤ maxLen ∧ ∀ k, k < l.length → w.cell? ⟨g, k, none⟩ = some (.bool (at_ l k))

theorem Lst.reads {w : World} {base : Nat} {v : Value} {l : List Bool} (h : Lst w base v l) (hl : l ≠ []) : Reads w w.heap.size v l := by
  have hlt := h.lt
  obtain ⟨h1, h2⟩ := h
  have hpos : 0 < l.length := List.length_pos_iff.2 hl
  rcases h2 with ⟨_, h0⟩ | ⟨g, cap, cur, rfl, hb, hg, hn, hm, hs, ht⟩
  · omega
  · have ho : World.ownsRow w base 4 1 (.slice (some ⟨g, 0, none⟩) l.length cap) l.length (l.map Value.bool) := ⟨h1, .inr ⟨g, cap, cur, rfl, hb, hg, hn, hm, hs, ht⟩⟩
    exact ⟨g, cap, rfl, (hlt g rfl).2, hn, hm, fun k hk => by rw [ho.cellAt k (by omega)]; exact at_get hk⟩
theorem Reads.below {w w' : World} {B : Nat} {v : Value} {l : List Bool} (h : Reads w B v l) (hb : Below B w w') : Reads w' B v l := by
  obtain ⟨g, cap, rfl, hg, h1, h2, h3⟩ := h
  exact ⟨g, cap, rfl, hg, h1, h2, fun k hk => (hb.cell (p := ⟨g, k, none⟩) hg).trans (h3 k hk)⟩
theorem Reads.mono {w : World} {B B' : Nat} {v : Value} {l : List Bool} (h : Reads w B v l) (hb : B ≤ B') : Reads w B' v l := by
  obtain ⟨g, cap, rfl, hg, h1, h2, h3⟩ := h
  exact ⟨g, cap, rfl, by omega, h1, h2, h3⟩
/-- what was below B is told again in a later world -/
theorem Lst.later {w w' : World} {base : Nat} {v : Value} {l : List Bool} (h : Lst w base v l) (hb : Below w.heap.size w w') : Lst w' base v l := by
  refine ⟨h.1, ?_⟩
  rcases h.2 with h2 | ⟨g, cap, cur, rfl, hg, hh, r⟩
  · exact .inl h2
  · refine .inr ⟨g, cap, cur, rfl, hg, (hb.block g ?_).trans hh, r⟩
    exact (World.ownsRow.lt h g rfl).2

/-- how far the run goes -/
def RetRun (w : World) (l : List Bool) (i : Nat) (e : Ending) (w' : World) : Prop := ∃ r : Nat, e = .returned (.int .i64 r) ∧ IsRun (at_ l) l.length i r ∧ w = w'

set_option maxRecDepth 100000 in
set_option maxHeartbeats 800000 in
theorem run_any (B : Nat) (v : Value) (l : List Bool) (i : Nat) (w : World) (hi : i ≤ l.length) (hr : Reads w B v l) :
    Calls Try.prog 45 #[v, .int .i64 (i : Int)] w (RetRun w l i) := by
  obtain ⟨g, cap, rfl, hg, h1, h2, h3⟩ := hr
  unfold maxLen at h2
  have HC := Lib.hid h3
  clear h3
  generalize hL : l.length = L at *
  have HL := Lib.hid hL
  clear hL
  go_enter Try.func45, Try.ntmps45
  go_wp2
  go_loop [5] (fun n => ∃ r : Nat, i + r ≤ L ∧ n = .int .i64 r ∧ Clear (at_ l) i r) (fun n => L - (intOf n).toNat)
  case atStart => exact ⟨0, by omega, rfl, Clear.zero _ _⟩
  case round =>
    obtain ⟨r, hr, rfl, hcl⟩ := hrel
    have HR := Lib.hid hcl
    clear hcl
    by_cases hlt : i + r < L
    · have hd : decide ((i : Int) + (r : Int) < (L : Int)) = true := by simp; omega
      have hc := HC.out (i + r) hlt
      cases hb : at_ l (i + r)
      · rw [hb] at hc
        have HB := Lib.hid hb
        clear hb
        go_wp2
        go_round
        case rel =>
          refine ⟨r + 1, by omega, by go_num, fun k a b => ?_⟩
          by_cases hk : k < i + r
          · exact HR.out k a hk
          · rw [show k = i + r from by omega]; exact HB.out
        case measure => simp [intOf]; omega
      · rw [hb] at hc
        have HB := Lib.hid hb
        clear hb
        go_wp2
        go_ret
        exact ⟨r, rfl, ⟨by rw [HL.out]; omega, HR.out, fun _ => HB.out⟩, rfl⟩
    · have hd : decide ((i : Int) + (r : Int) < (L : Int)) = false := by simp; omega
      go_wp2
      go_ret
      exact ⟨r, rfl, ⟨by rw [HL.out]; omega, HR.out, fun h => by rw [HL.out] at h; omega⟩, rfl⟩
end Go.Proofs.Ytkocngnpkfnblaa
