/- seats: P. The walks of spec.Used, spec.Words, spec.Place, spec.Put, spec.Block. -/
import Derived.Test.YtkocngnpkfnblaaWR
import Derived.Test.YtkocngnpkfnblaaWE
import Derived.BigRegion
namespace Go.Proofs.Ytkocngnpkfnblaa
open Go.RowKit

set_option maxRecDepth 100000 in
set_option maxHeartbeats 800000 in
theorem used_any (B : Nat) (v : Value) (l : List Bool) (i n : Nat) (w : World) (hi : i + n ≤ l.length) (hr : Reads w B v l) :
    Calls Try.prog 27 #[v, .int .i64 (i : Int), .int .i64 (n : Int)] w fun e w' => e = .returned (.int .i64 (cnt (at_ l) i n : Nat)) ∧ w = w' := by
  obtain ⟨g, cap, rfl, hg, h1, h2, h3⟩ := hr
  unfold maxLen at h2
  have HC := Lib.hid h3
  clear h3
  generalize hL : l.length = L at *
  clear hL
  go_enter Try.func27, Try.ntmps27
  go_wp2
  go_loop [7, 8] (fun s j => ∃ r : Nat, r ≤ n ∧ j = .int .i64 (i + r : Nat) ∧ s = .int .i64 (cnt (at_ l) i r : Nat)) (fun _ j => i + n - (intOf j).toNat)
  case atStart => exact ⟨0, by omega, rfl, rfl⟩
  case round =>
    obtain ⟨r, hr, rfl, rfl⟩ := hrel
    have hcn := cnt_le (at_ l) i r
    by_cases hlt : r < n
    · have hc := HC.out (i + r) (by omega)
      have hs : cnt (at_ l) i (r + 1) = cnt (at_ l) i r + if at_ l (i + r) then 1 else 0 := rfl
      generalize cnt (at_ l) i r = u at *
      cases hb : at_ l (i + r)
      · rw [hb] at hc hs
        have HS := Lib.hid hs
        clear hb hs
        go_wp2
        go_round
        case rel => exact ⟨r + 1, by omega, by go_num, by rw [HS.out]; rfl⟩
        case measure => simp [intOf]; omega
      · rw [hb] at hc hs
        have HS := Lib.hid hs
        clear hb hs
        go_wp2
        go_round
        case rel => exact ⟨r + 1, by omega, by go_num, by rw [HS.out]; rfl⟩
        case measure => simp [intOf]; omega
    · obtain rfl : r = n := by omega
      go_wp2
      go_ret
      exact ⟨rfl, rfl⟩

/-- the words hold the pages l -/
def Packed (l : List Bool) (c : Nat → Nat) : Prop := Words c ∧ ∀ k, k < 512 → bt c k = at_ l k
/-- the words hold the first n pages of l, the rest is 0 -/
def PackedTo (l : List Bool) (n : Nat) (c : Nat → Nat) : Prop := Words c ∧ ∀ k, k < 512 → bt c k = (at_ l k && decide (k < n))

theorem PackedTo.start (l : List Bool) : PackedTo l 0 (fun _ => 0) := ⟨fun _ _ => by show 0 < _; decide, fun k _ => by simp [bt]⟩
theorem PackedTo.skip {l : List Bool} {n : Nat} {c : Nat → Nat} (h : PackedTo l n c) (hb : at_ l n = false) : PackedTo l (n + 1) c := by
  refine ⟨h.1, fun k hk => ?_⟩
  rw [h.2 k hk]
  by_cases e : k = n
  · subst e; simp [hb]
  · congr 1; simp; omega
theorem PackedTo.put {l : List Bool} {n y : Nat} {c : Nat → Nat} (h : PackedTo l n c) (hb : at_ l n = true) (hn : n < 512) (hy : y < 18446744073709551616)
    (ht : ∀ k, k < 64 → y.testBit k = ((c (n / 64)).testBit k || decide (k = n % 64))) : PackedTo l (n + 1) (upd c (n / 64) y) := by
  refine ⟨h.1.upd hy, fun k hk => ?_⟩
  have hk2 := h.2 k hk
  rw [bt_upd]
  split
  · rename_i hw
    rw [ht _ (by omega)]
    unfold bt at hk2
    rw [hw] at hk2
    rw [hk2]
    by_cases e : k = n
    · subst e; simp [hb]
    · have e2 : decide (k % 64 = n % 64) = false := by simp; omega
      rw [e2, Bool.or_false]
      congr 1; simp; omega
  · rename_i hw
    rw [hk2]
    congr 1; simp; omega

set_option maxRecDepth 100000 in
set_option maxHeartbeats 800000 in
theorem words_any (B : Nat) (v : Value) (l : List Bool) (w : World) (hl : l.length = 512) (hB : B ≤ w.heap.size) (hr : Reads w B v l) :
    Calls Try.prog 21 #[v] w (RetArr w (Packed l)) := by
  obtain ⟨g, cap, rfl, hg, h1, h2, h3⟩ := hr
  unfold maxLen at h2
  rw [hl] at h1 h3
  rw [hl]
  have HC := Lib.hid h3
  clear h3 hl
  go_enter Try.func21, Try.ntmps21
  go_wp2
  go_loopw [4] (fun i wr => ∃ (k : Nat) (c : Nat → Nat), k ≤ 512 ∧ i = .int .i64 k ∧ Cells8 wr (w.heap.size + 1) 23 c ∧ Cells8 wr w.heap.size 23 (fun _ => 0) ∧ PackedTo l k c ∧ Below w.heap.size w wr) (fun i _ => 512 - (intOf i).toNat)
  case atStart =>
    refine ⟨0, fun _ => 0, Nat.zero_le _, rfl, Cells8.new' (w.alloc (.cells #[.int .u64 ((fun _ => 0) 0), .int .u64 ((fun _ => 0) 1), .int .u64 ((fun _ => 0) 2), .int .u64 ((fun _ => 0) 3), .int .u64 ((fun _ => 0) 4), .int .u64 ((fun _ => 0) 5), .int .u64 ((fun _ => 0) 6), .int .u64 ((fun _ => 0) 7)] 23)) (w.heap.size + 1) 23 (fun _ => 0) (by simp), ?_, PackedTo.start l, ((Below.refl _ _).alloc (Nat.le_refl _) _).alloc (by simp) _⟩
    exact Cells8.alloc (Cells8.new' w w.heap.size 23 (fun _ => 0) rfl) _
  case round =>
    obtain ⟨k, c, hk, rfl, hc1, hc2, hp, hb⟩ := hrel
    by_cases hlt : k < 512
    · have hc : wr.cell? ⟨g, k, none⟩ = some (.bool (at_ l k)) := (hb.cell (p := ⟨g, k, none⟩) (by show g < _; omega)).trans (HC.out k hlt)
      have k1 := hc1.cell (j := k / 64) (by omega)
      have k2 := hc1.frozen (k / 64)
      have HC1 := Lib.hid hc1
      have HC2 := Lib.hid hc2
      have HP := Lib.hid hp
      have HB := Lib.hid hb
      have hsz : w.heap.size + 1 < wr.heap.size := hc1.lt
      obtain ⟨y, hy, hy1, hy2⟩ := or_mask (hp.1 (k / 64) (by omega)) (mask_one (k % 64) (by omega))
      have HY := Lib.hid hy
      have HT := Lib.hid hy2
      clear hc1 hc2 hp hb hy hy2
      cases ha : at_ l k
      · rw [ha] at hc
        have HA := Lib.hid ha
        clear ha
        go_wp2
        go_roundw
        case rel => exact ⟨k + 1, c, by omega, by go_num, HC1.out, HC2.out, HP.out.skip HA.out, HB.out⟩
        case measure => simp [intOf]; omega
      · rw [ha] at hc
        have HA := Lib.hid ha
        clear ha
        go_wp2
        go_region
        go_wp2
        go_roundw
        case rel =>
          refine ⟨k + 1, upd c (k / 64) y, by omega, by go_num, ?_, ?_, HP.out.put HA.out hlt hy1 HT.out, (HB.out.setCell (by show _ ≤ w.heap.size + 1; omega) _).drew⟩
          · rw [HY.out]; exact (HC1.out.set y (by omega)).drew
          · exact (HC2.out.far (by simp) _).drew
        case measure => simp [intOf]; omega
    · obtain rfl : k = 512 := by omega
      obtain ⟨f0, f1, f2, f3, f4, f5, f6, f7⟩ := hc1.facts
      obtain ⟨z0, z1, z2, z3, z4, z5, z6, z7⟩ := hc2.facts
      have y0 := hc2.frozen 0; have y1 := hc2.frozen 1; have y2 := hc2.frozen 2; have y3 := hc2.frozen 3
      have y4 := hc2.frozen 4; have y5 := hc2.frozen 5; have y6 := hc2.frozen 6; have y7 := hc2.frozen 7
      have HZ := Lib.hid hc2
      have HP := Lib.hid hp
      have HB := Lib.hid hb
      clear hc1 hc2 hp hb
      go_wp2
      refine bodyPost_ret (results_cell_row rfl _ _ w.heap.size 23 _ (0, 0) _ rfl (HZ.out.fill c) Try.underlying23 rfl (by kernel_rfl)) rfl ⟨c, ⟨HP.out.1, fun k hk => by rw [HP.out.2 k hk]; simp [hk]⟩, rfl, ?_⟩
      exact below_fill HB.out (Nat.le_refl _) c
/-- a page and how many from it on are handed back -/
def RetPlace (w : World) (e : Ending) (w' : World) : Prop := ∃ a m : Nat, e = .returned (.tuple #[.int .u64 a, .int .u64 m]) ∧ (1 ≤ m ∧ a + m ≤ 512) ∧ Below w.heap.size w w'

theorem place_num (i n : Nat) : IntKind.u64.wrap (1 + (n : Int) % (512 - (i : Int) % 512)) = ((1 + n % (512 - i % 512) : Nat) : Int) := by
  have h : n % (512 - i % 512) < 512 - i % 512 := Nat.mod_lt _ (by omega)
  rw [show (512 - (i : Int) % 512) = ((512 - i % 512 : Nat) : Int) from by omega]
  rw [show (n : Int) % ((512 - i % 512 : Nat) : Int) = ((n % (512 - i % 512) : Nat) : Int) from rfl]
  generalize n % (512 - i % 512) = q at *
  rw [IntKind.wrap_u64]
  omega

set_option maxRecDepth 100000 in
set_option maxHeartbeats 800000 in
theorem place_any (i n : Nat) (hi : i < 65536) (hn : n < 65536) (w : World) :
    Calls Try.prog 19 #[.int .u16 (i : Int), .int .u16 (n : Int)] w (RetPlace w) := by
  go_enter Try.func19, Try.ntmps19
  go_wp2
  go_region
  go_wp2
  go_ret2
  have h : n % (512 - i % 512) < 512 - i % 512 := Nat.mod_lt _ (by omega)
  refine ⟨i % 512, 1 + n % (512 - i % 512), ?_, ⟨by omega, by omega⟩, (Below.refl _ _).drew⟩
  rw [place_num]
  rfl

/-- r pages from i on become x -/
def putTo (l : List Bool) (i : Nat) (x : Bool) : Nat → List Bool
  | 0 => l
  | r + 1 => (putTo l i x r).set (i + r) x
theorem putTo_length (l : List Bool) (i : Nat) (x : Bool) (r : Nat) : (putTo l i x r).length = l.length := by
  induction r with
  | zero => rfl
  | succ r ih => simp [putTo, ih]
theorem putTo_at (l : List Bool) (i : Nat) (x : Bool) (r k : Nat) (hk : k < l.length) : at_ (putTo l i x r) k = if i ≤ k ∧ k < i + r then x else at_ l k := by
  induction r with
  | zero => rw [if_neg (by omega)]; rfl
  | succ r ih =>
    have hl := putTo_length l i x r
    unfold putTo at_
    rw [List.getD_eq_getElem?_getD, List.getElem?_set]
    by_cases e : i + r = k
    · subst e
      rw [if_pos rfl, if_pos (by omega), if_pos (by omega)]
      rfl
    · rw [if_neg e]
      have : at_ (putTo l i x r) k = ((putTo l i x r)[k]?).getD false := by simp [at_]
      rw [← this, ih]
      by_cases h : i ≤ k ∧ k < i + r
      · rw [if_pos h, if_pos (by omega)]
      · rw [if_neg h, if_neg (by omega)]; rfl

set_option maxRecDepth 100000 in
set_option maxHeartbeats 800000 in
theorem put_any (B : Nat) (v : Value) (l : List Bool) (i n : Nat) (x : Bool) (w : World) (hin : i + n ≤ l.length) (hL : l.length ≤ 4096) (hl : l ≠ []) (hB : B ≤ w.heap.size) (hr : Reads w B v l) :
    Calls Try.prog 22 #[v, .int .i64 (i : Int), .int .i64 (n : Int), .bool x] w (RetLst w (putTo l i x n)) := by
  obtain ⟨i0, hi, hz0, hz1, hz2⟩ := info_parts infoBool
  obtain ⟨g, cap, rfl, hg, h1, h2, h3⟩ := hr
  have hnews : ∀ (W : World), (∀ k, k < l.length → W.cell? ⟨g, k, none⟩ = some (.bool (at_ l k))) → ∀ j u, (l.map Value.bool)[j]? = some u → W.cell? ((⟨g, 0, none⟩ : Addr).add j) = some u := by
    intro W hW j u hu
    have hj : j < l.length := by
      rcases Nat.lt_or_ge j l.length with h | h
      · exact h
      · rw [List.getElem?_eq_none (by simpa using h)] at hu; cases hu
    rw [at_get hj] at hu
    injection hu with hu
    subst hu
    have := hW j hj
    unfold Addr.add
    split
    · rename_i h0; subst h0; exact this
    · simpa using this
  have hown0 : (w.alloc (.cells #[] 4)).ownsRow w.heap.size 4 1 (.slice (some ⟨w.heap.size, 0, none⟩) 0 0) 0 [] :=
    ⟨rfl, .inr ⟨w.heap.size, 0, #[], rfl, Nat.le_refl _, heap_alloc_new w _, Nat.le_refl _, Nat.zero_le _, rfl, rfl⟩⟩
  unfold maxLen at h2
  have HC := Lib.hid h3
  have HN := Lib.hid hnews
  have HO0 := Lib.hid hown0
  have hpos : 0 < l.length := List.length_pos_iff.2 hl
  clear h3 hnews hown0 hl
  go_enter Try.func22, Try.ntmps22
  go_wp2_with (at_builtin; refine wpList_append_own _ rfl _ _ 28 rfl w.heap.size 4 i0 (.bool false) 1 1 Try.underlying28 hi hz0 hz1 hz2 rfl (by decide) _ 0 [] rfl HO0.out ⟨g, 0, none⟩ l.length cap (l.map Value.bool) rfl ?c0 ?c1 ?c2 ?c3 ?c4 ?c5 ?_)
  case c0 => simp
  case c1 => exact HN.out _ fun k hk => (World.cell?_alloc_lt w _ ⟨g, k, none⟩ (by show g < _; omega)).trans (HC.out k hk)
  case c2 => intro u hu; simp at hu; rcases hu with ⟨_, rfl⟩ | ⟨_, rfl⟩ <;> rfl
  case c3 => unfold maxLen; omega
  case c4 => omega
  case c5 => simp
  intro v' w1 hown' hgrow hnil
  have hb1 : Below w.heap.size w w1 := ((Below.refl _ _).alloc (Nat.le_refl _) _).grown hgrow (by simp) (by intro k hk; simp [Value.ownBlock] at hk; omega)
  obtain ⟨g', cap', rfl, hg', hcap', hm'⟩ : ∃ g' cap', v' = .slice (some ⟨g', 0, none⟩) l.length cap' ∧ w.heap.size ≤ g' ∧ l.length ≤ cap' ∧ cap' ≤ maxLen := by
    rcases hown'.2 with ⟨_, h0⟩ | ⟨g', cap', cur, hv, hb, _, hn, hm, _⟩
    · omega
    · exact ⟨g', cap', hv, hb, hn, hm⟩
  have HO1 := Lib.hid hown'
  have HB1 := Lib.hid hb1
  clear hown' hgrow hnil hb1
  unfold maxLen at hm'
  go_wp2
  go_loopw [10] (fun k wr => ∃ r : Nat, r ≤ n ∧ k = .int .i64 (i + r : Nat) ∧ wr.ownsRow w.heap.size 4 1 (.slice (some ⟨g', 0, none⟩) l.length cap') l.length ((putTo l i x r).map Value.bool) ∧ Below w.heap.size w wr) (fun k _ => i + n - (intOf k).toNat)
  case atStart => exact ⟨0, Nat.zero_le _, rfl, HO1.out, HB1.out⟩
  case round =>
    obtain ⟨r, hr, rfl, hown, hb⟩ := hrel
    by_cases hlt : r < n
    · have hc := hown.cellAt (i + r) (by omega)
      rw [at_get (by rw [putTo_length]; omega)] at hc
      have hf := hown.frozenAt (i + r)
      have HO := Lib.hid hown
      have HB := Lib.hid hb
      clear hown hb
      go_wp2
      go_roundw
      case rel =>
        refine ⟨r + 1, by omega, by go_num, ?_, HB.out.setCell (by exact hg') _⟩
        have := (HO.out.stored (i + r) (.bool x)).1
        rw [show (putTo l i x (r + 1)).map Value.bool = ((putTo l i x r).map Value.bool).set (i + r) (.bool x) from by simp [putTo, List.map_set]]
        exact this
      case measure => simp [intOf]; omega
    · obtain rfl : r = n := by omega
      have HO := Lib.hid hown
      have HB := Lib.hid hb
      clear hown hb
      go_wp2
      go_ret
      refine ⟨_, rfl, ?_, HB.out⟩
      unfold Lst
      rw [putTo_length]
      exact HO.out
/-- spec.Words, told by words that are known already -/
theorem words_eq {B : Nat} {v : Value} {l : List Bool} (w : World) (c : Nat → Nat) (hw : Words c) (hc : ∀ k, k < 512 → bt c k = at_ l k) (hl : l.length = 512) (hB : B ≤ w.heap.size) (hr : Reads w B v l) :
    Calls Try.prog 21 #[v] w (fun e w' => e = .returned (.agg #[.int .u64 (c 0), .int .u64 (c 1), .int .u64 (c 2), .int .u64 (c 3), .int .u64 (c 4), .int .u64 (c 5), .int .u64 (c 6), .int .u64 (c 7)]) ∧ Below w.heap.size w w') :=
  (words_any B v l w hl hB hr).mono fun e w' ⟨d, hd, he, hb⟩ => by
    have h := words_ext (n := 8) hd.1 hw (fun k hk => by rw [hd.2 k hk, hc k hk])
    rw [h 0 (by decide), h 1 (by decide), h 2 (by decide), h 3 (by decide), h 4 (by decide), h 5 (by decide), h 6 (by decide), h 7 (by decide)] at he
    exact ⟨he, hb⟩

theorem set_put {b c : Nat → Nat} {i n : Nat} (h : SetTo b i n c) (_hr : i + n ≤ 512) : ∀ k, k < 512 → bt c k = at_ (putTo (pg b 512) i true n) k := fun k hk => by
  rw [h.2 k hk, putTo_at _ _ _ _ _ (by rw [pg_length]; exact hk), at_pg b hk]
  split
  · rename_i hh; simp [hh.1, hh.2]
  · rename_i hh; have : (decide (i ≤ k) && decide (k < i + n)) = false := by simp; omega
    rw [this, Bool.or_false]
theorem clear_put {b c : Nat → Nat} {i n : Nat} (h : ClearTo b i n c) (_hr : i + n ≤ 512) : ∀ k, k < 512 → bt c k = at_ (putTo (pg b 512) i false n) k := fun k hk => by
  rw [h.2 k hk, putTo_at _ _ _ _ _ (by rw [pg_length]; exact hk), at_pg b hk]
  split
  · rename_i hh; simp [hh.1, hh.2]
  · rename_i hh; have : (decide (i ≤ k) && decide (k < i + n)) = false := by simp; omega
    rw [this, Bool.not_false, Bool.and_true]
end Go.Proofs.Ytkocngnpkfnblaa
