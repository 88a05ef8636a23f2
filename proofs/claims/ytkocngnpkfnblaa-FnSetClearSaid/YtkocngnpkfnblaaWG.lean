/- seats: P D. The walk of spec.Pages: the pages of words, one by one, in a slice of the call's own. -/
import Derived.Test.YtkocngnpkfnblaaWK
import Derived.Test.YtkocngnpkfnblaaMP
import Derived.Maps.AppendAt
namespace Go.Proofs.Ytkocngnpkfnblaa
open Go.RowKit

theorem infoBool : (Try.prog.info? 4).map (fun i => (i.zero, i.size, i.bytes)) = some (some (.bool false), 1, 1) := by kernel_rfl

/-- the slice value v with its pages l, in memory from base on -/
def Lst (w : World) (base : Nat) (v : Value) (l : List Bool) : Prop := w.ownsRow base 4 1 v l.length (l.map Value.bool)

/-- a list of pages is handed back, in new memory; what was there is not turned -/
def RetLst (w : World) (l : List Bool) (e : Ending) (w' : World) : Prop := ∃ v, e = .returned v ∧ Lst w' w.heap.size v l ∧ Below w.heap.size w w'

set_option maxRecDepth 100000 in
set_option maxHeartbeats 800000 in
theorem pages_any (g L cap : Nat) (ws : Nat → Nat) (hL : L ≤ 8) (w : World) (hg : g < w.heap.size) (hws : ∀ j, j < L → ws j < 18446744073709551616)
    (hc : ∀ j, j < L → w.cell? ⟨g, j, none⟩ = some (.int .u64 (ws j))) :
    Calls Try.prog 16 #[.slice (some ⟨g, 0, none⟩) L cap] w (RetLst w (pg ws (64 * L))) := by
  obtain ⟨i0, hi, hz0, hz1, hz2⟩ := info_parts infoBool
  have HC := Lib.hid hc
  have HW := Lib.hid hws
  clear hc hws
  go_enter Try.func16, Try.ntmps16
  go_wp2
  go_loopw [3, 4] (fun v i wr => ∃ k : Nat, k ≤ L ∧ i = .int .i64 k ∧ wr.ownsRow w.heap.size 4 1 v (64 * k) ((pg ws (64 * k)).map Value.bool) ∧ Below w.heap.size w wr) (fun _ i _ => L - (intOf i).toNat)
  case atStart => exact ⟨0, Nat.zero_le _, rfl, World.ownsRow_nil _ _ _ _, Below.refl _ _⟩
  case round =>
    obtain ⟨k, hk, rfl, hown, hb⟩ := hrel
    have HO := Lib.hid hown
    have HB := Lib.hid hb
    clear hown hb
    obtain ⟨wo, rfl⟩ : ∃ wo : World, wo = wr := ⟨_, rfl⟩
    by_cases hlt : k < L
    · go_wp2
      go_loopw [3, 5] (fun v j wr => ∃ m : Nat, m ≤ 64 ∧ j = .int .i64 m ∧ wr.ownsRow w.heap.size 4 1 v (64 * k + m) ((pg ws (64 * k + m)).map Value.bool) ∧ Below w.heap.size w wr) (fun _ j _ => 64 - (intOf j).toNat)
      case atStart => exact ⟨0, Nat.zero_le _, rfl, HO.out, HB.out⟩
      case round =>
        obtain ⟨m, hm, rfl, hown, hb⟩ := hrel
        have hs := hb.size
        have HO2 := Lib.hid hown
        have HB2 := Lib.hid hb
        clear hown hb
        by_cases hlt2 : m < 64
        · have h1 : wr.cell? ⟨g, k, none⟩ = some (.int .u64 (ws k)) := (HB2.out.cell (p := ⟨g, k, none⟩) hg).trans (HC.out k hlt)
          have h2 := bit_test (HW.out k hlt) m
          have h3 := bt_word ws k m hlt2
          rw [← h3] at h2
          clear h3
          go_wp2_with (at_builtin; refine wpList_append_own _ rfl _ _ 28 rfl w.heap.size 4 i0 (.bool false) 1 1 Try.underlying28 hi hz0 hz1 hz2 rfl (by decide) _ _ _ rfl (HO2.out.alloc _) ⟨wr.heap.size, 0, none⟩ 1 1 [.bool (bt ws (64 * k + m))] rfl rfl ?c1 ?c2 ?c3 ?c4 ?c5 ?_)
          case c1 => exact cell_one_new _ _ _
          case c2 => intro u hu; simp at hu; subst hu; rfl
          case c3 => unfold maxLen; omega
          case c4 => omega
          case c5 => simp; omega
          intro v' w1 hown' hgrow _
          have HO3 := Lib.hid hown'
          have HG := Lib.hid hgrow
          clear hown' hgrow
          go_wp2
          go_roundw
          case rel =>
            refine ⟨m + 1, by omega, by go_num, ?_, ?_⟩
            · have := HO3.out
              rw [← Nat.add_assoc, pg_succ, List.map_append]
              exact this
            · exact (HB2.out.alloc (by omega) _).grown HG.out (by simp; omega) fun q hq => (HO2.out.lt q hq).1
          case measure => simp [intOf]; omega
        · obtain rfl : m = 64 := by omega
          go_wp2
          go_roundw
          case rel => exact ⟨k + 1, by omega, by go_num, by rw [show 64 * (k + 1) = 64 * k + 64 from by omega]; exact HO2.out, HB2.out⟩
          case measure => simp [intOf]; omega
    · obtain rfl : k = L := by omega
      go_wp2
      go_ret
      refine ⟨_, rfl, ?_, HB.out⟩
      unfold Lst
      rw [pg_length]
      exact HO.out
end Go.Proofs.Ytkocngnpkfnblaa
