/- seats: P D. The walks of setRange: what it has written: the bits of the range are set, no other bit is turned. -/
import Derived.Test.YtkocngnpkfnblaaWK
import Derived.Test.YtkocngnpkfnblaaMW
namespace Go.Proofs.Ytkocngnpkfnblaa
open Go.RowKit

theorem bt_upd (b : Nat → Nat) (j y k : Nat) : bt (upd b j y) k = if k / 64 = j then y.testBit (k % 64) else bt b k := by
  unfold bt upd
  split <;> rfl

/-- the words c are the words b, the range's bits set -/
def SetTo (b : Nat → Nat) (i n : Nat) (c : Nat → Nat) : Prop := Words c ∧ ∀ k, k < 512 → bt c k = (bt b k || (decide (i ≤ k) && decide (k < i + n)))
/-- the words c are the words b, the range's bits cleared -/
def ClearTo (b : Nat → Nat) (i n : Nat) (c : Nat → Nat) : Prop := Words c ∧ ∀ k, k < 512 → bt c k = (bt b k && !(decide (i ≤ k) && decide (k < i + n)))

theorem setTo_one {b : Nat → Nat} {i n y : Nat} (hb : Words b) (hn : 1 ≤ n) (hs : i / 64 = (i + n - 1) / 64) (hy : y < 18446744073709551616)
    (ht : ∀ k, k < 64 → y.testBit k = ((b (i / 64)).testBit k || (decide (i % 64 ≤ k) && decide (k < i % 64 + n)))) : SetTo b i n (upd b (i / 64) y) := by
  refine ⟨hb.upd hy, fun k _ => ?_⟩
  rw [bt_upd]
  split
  · rename_i hk
    rw [ht _ (by omega)]
    unfold bt
    rw [hk]
    congr 2
    · simp; omega
    · simp; omega
  · rename_i hk
    have : (decide (i ≤ k) && decide (k < i + n)) = false := by simp; omega
    rw [this, Bool.or_false]

theorem clearTo_one {b : Nat → Nat} {i n y : Nat} (hb : Words b) (hn : 1 ≤ n) (hs : i / 64 = (i + n - 1) / 64) (hy : y < 18446744073709551616)
    (ht : ∀ k, k < 64 → y.testBit k = ((b (i / 64)).testBit k && !(decide (i % 64 ≤ k) && decide (k < i % 64 + n)))) : ClearTo b i n (upd b (i / 64) y) := by
  refine ⟨hb.upd hy, fun k _ => ?_⟩
  rw [bt_upd]
  split
  · rename_i hk
    rw [ht _ (by omega)]
    unfold bt
    rw [hk]
    congr 3
    · simp; omega
    · simp; omega
  · rename_i hk
    have : (decide (i ≤ k) && decide (k < i + n)) = false := by simp; omega
    rw [this, Bool.not_false, Bool.and_true]

/-- the words between are all v, from i/64+1 on up to q -/
def Between (b : Nat → Nat) (p y v q : Nat) (c : Nat → Nat) : Prop := Words c ∧ c p = y ∧ (∀ m, p < m → m < q → c m = v) ∧ ∀ m, m ≠ p → (m < p ∨ q ≤ m) → c m = b m

theorem Between.start {b : Nat → Nat} {p y v : Nat} (hb : Words b) (hy : y < 18446744073709551616) : Between b p y v (p + 1) (upd b p y) := by
  refine ⟨hb.upd hy, by simp [upd], fun m _ _ => by omega, fun m h _ => by simp [upd, h]⟩
theorem Between.step {b c : Nat → Nat} {p y v q : Nat} (h : Between b p y v q c) (hq : p < q) (hv : v < 18446744073709551616) : Between b p y v (q + 1) (upd c q v) := by
  obtain ⟨h1, h2, h3, h4⟩ := h
  refine ⟨h1.upd hv, ?_, fun m a b => ?_, fun m a b => ?_⟩
  · unfold upd; rw [if_neg (by omega)]; exact h2
  · unfold upd; split
    · rfl
    · exact h3 m a (by omega)
  · unfold upd; rw [if_neg (by omega)]; exact h4 m a (by omega)

theorem setTo_wide {b c : Nat → Nat} {i n y z : Nat} (hn : 1 ≤ n) (hi : i + n ≤ 512) (hs : i / 64 < (i + n - 1) / 64)
    (h : Between b (i / 64) y 18446744073709551615 ((i + n - 1) / 64) c) (hz : z < 18446744073709551616)
    (hty : ∀ k, k < 64 → y.testBit k = ((b (i / 64)).testBit k || decide (i % 64 ≤ k)))
    (htz : ∀ k, k < 64 → z.testBit k = ((b ((i + n - 1) / 64)).testBit k || decide (k < (i + n - 1) % 64 + 1))) : SetTo b i n (upd c ((i + n - 1) / 64) z) := by
  obtain ⟨h1, h2, h3, h4⟩ := h
  refine ⟨h1.upd hz, fun k _ => ?_⟩
  rw [bt_upd]
  split
  · rename_i hk
    rw [htz _ (by omega)]
    unfold bt
    rw [hk]
    congr 1
    rw [Bool.eq_iff_iff]; simp; omega
  · rename_i hk
    unfold bt
    rcases Nat.lt_trichotomy (k / 64) (i / 64) with hlt | he | hgt
    · rw [h4 _ (by omega) (by omega)]
      have : (decide (i ≤ k) && decide (k < i + n)) = false := by simp; omega
      rw [this, Bool.or_false]
    · rw [he, h2, hty _ (by omega)]
      congr 1
      rw [Bool.eq_iff_iff]; simp; omega
    · by_cases hl : k / 64 < (i + n - 1) / 64
      · rw [h3 _ (by omega) hl, tb_max (by omega)]
        have : (decide (i ≤ k) && decide (k < i + n)) = true := by simp; omega
        rw [this, Bool.or_true]
      · rw [h4 _ (by omega) (by omega)]
        have : (decide (i ≤ k) && decide (k < i + n)) = false := by simp; omega
        rw [this, Bool.or_false]

theorem clearTo_wide {b c : Nat → Nat} {i n y z : Nat} (hn : 1 ≤ n) (hi : i + n ≤ 512) (hs : i / 64 < (i + n - 1) / 64)
    (h : Between b (i / 64) y 0 ((i + n - 1) / 64) c) (hz : z < 18446744073709551616)
    (hty : ∀ k, k < 64 → y.testBit k = ((b (i / 64)).testBit k && !decide (i % 64 ≤ k)))
    (htz : ∀ k, k < 64 → z.testBit k = ((b ((i + n - 1) / 64)).testBit k && !decide (k < (i + n - 1) % 64 + 1))) : ClearTo b i n (upd c ((i + n - 1) / 64) z) := by
  obtain ⟨h1, h2, h3, h4⟩ := h
  refine ⟨h1.upd hz, fun k _ => ?_⟩
  rw [bt_upd]
  split
  · rename_i hk
    rw [htz _ (by omega)]
    unfold bt
    rw [hk]
    congr 2
    rw [Bool.eq_iff_iff]; simp; omega
  · rename_i hk
    unfold bt
    rcases Nat.lt_trichotomy (k / 64) (i / 64) with hlt | he | hgt
    · rw [h4 _ (by omega) (by omega)]
      have : (decide (i ≤ k) && decide (k < i + n)) = false := by simp; omega
      rw [this, Bool.not_false, Bool.and_true]
    · rw [he, h2, hty _ (by omega)]
      congr 2
      rw [Bool.eq_iff_iff]; simp; omega
    · by_cases hl : k / 64 < (i + n - 1) / 64
      · rw [h3 _ (by omega) hl, Nat.zero_testBit]
        have : (decide (i ≤ k) && decide (k < i + n)) = true := by simp; omega
        rw [this, Bool.not_true, Bool.and_false]
      · rw [h4 _ (by omega) (by omega)]
        have : (decide (i ≤ k) && decide (k < i + n)) = false := by simp; omega
        rw [this, Bool.not_false, Bool.and_true]

set_option maxRecDepth 100000 in
set_option maxHeartbeats 400000 in
theorem setRange_one (g t : Nat) (b : Nat → Nat) (i : Nat) (hi : i < 512) (w : World) (hb : Words b) (hc : Cells8 w g t b) :
    Calls Try.prog 51 #[.pointer (some ⟨g, 0, none⟩), .int .u64 (i : Int), .int .u64 1] w (Wrote w g t (SetTo b i 1)) := by
  have h1 := hc.cell (j := i / 64) (by omega)
  have h2 := hc.frozen (i / 64)
  obtain ⟨y, hy, hy1, hy2⟩ := or_mask (hb (i / 64) (by omega)) (mask_one (i % 64) (by omega))
  have HY := Lib.hid hy
  have HC := Lib.hid hc
  have HB := Lib.hid hb
  have HT := Lib.hid hy2
  clear hy hc hb hy2
  go_enter Try.func51, Try.ntmps51
  go_wp2
  go_region
  go_wp2
  go_end0
  go_wp2
  go_end0
  refine ⟨rfl, upd b (i / 64) y, setTo_one HB.out (Nat.le_refl _) rfl hy1 fun k hk => ?_, ?_, ?_⟩
  · rw [HT.out k hk]
    congr 1
    rw [Bool.eq_iff_iff]; simp; omega
  · rw [HY.out]; exact (HC.out.set y (by omega)).drew
  · exact only_drew (only_setCell (only_refl _ _) (.inl rfl) _)

set_option maxRecDepth 100000 in
set_option maxHeartbeats 400000 in
theorem setRange_same (g t : Nat) (b : Nat → Nat) (i n : Nat) (hn : 2 ≤ n) (hi : i + n ≤ 512) (hs : i / 64 = (i + n - 1) / 64) (w : World) (hb : Words b) (hc : Cells8 w g t b) :
    Calls Try.prog 51 #[.pointer (some ⟨g, 0, none⟩), .int .u64 (i : Int), .int .u64 (n : Int)] w (Wrote w g t (SetTo b i n)) := by
  have h1 := hc.cell (j := i / 64) (by omega)
  have h2 := hc.frozen (i / 64)
  have h4 : ((n : Int) == 1) = false := by simp; omega
  have h5 : ((i : Int) / 64 == ((i : Int) + (n : Int) - 1) / 64) = true := by simp; omega
  have h6 : n ≤ 64 := by omega
  obtain ⟨y, hy, hy1, hy2⟩ := or_mask (hb (i / 64) (by omega)) (mask_mid n (i % 64) h6)
  have HY := Lib.hid hy
  have HC := Lib.hid hc
  have HB := Lib.hid hb
  have HT := Lib.hid hy2
  have HS := Lib.hid hs
  clear hy hc hb hy2 hs
  go_enter Try.func51, Try.ntmps51
  go_wp2
  go_region
  go_wp2
  go_end0
  refine ⟨rfl, upd b (i / 64) y, setTo_one HB.out (by omega) HS.out hy1 HT.out, ?_, ?_⟩
  · rw [HY.out]; exact (HC.out.set y (by omega)).drew
  · exact only_drew (only_setCell (only_refl _ _) (.inl rfl) _)

set_option maxRecDepth 100000 in
set_option maxHeartbeats 800000 in
theorem setRange_wide (g t : Nat) (b : Nat → Nat) (i n : Nat) (hn : 2 ≤ n) (hi : i + n ≤ 512) (hs : i / 64 < (i + n - 1) / 64) (w : World) (hb : Words b) (hc : Cells8 w g t b) :
    Calls Try.prog 51 #[.pointer (some ⟨g, 0, none⟩), .int .u64 (i : Int), .int .u64 (n : Int)] w (Wrote w g t (SetTo b i n)) := by
  have h1 := hc.cell (j := i / 64) (by omega)
  have h1' := hc.cell (j := (i + n - 1) / 64) (by omega)
  have h2 := hc.frozen (i / 64)
  have h4 : ((n : Int) == 1) = false := by simp; omega
  have h5 : ((i : Int) / 64 == ((i : Int) + (n : Int) - 1) / 64) = false := by simp; omega
  obtain ⟨y, hy, hy1, hy2⟩ := or_mask (hb (i / 64) (by omega)) (mask_lead (i % 64))
  have HY := Lib.hid hy
  have HC := Lib.hid hc
  have HB := Lib.hid hb
  have HT := Lib.hid hy2
  clear hy hc hb hy2
  go_enter Try.func51, Try.ntmps51
  go_wp2
  go_region
  go_wp2
  go_loopw [7] (fun k wr => ∃ (q : Nat) (c : Nat → Nat), k = .int .u64 q ∧ i / 64 + 1 ≤ q ∧ q ≤ (i + n - 1) / 64 ∧ Cells8 wr g t c ∧ Between b (i / 64) y 18446744073709551615 q c ∧ w.grownBy wr (some g)) (fun k _ => 8 - (intOf k).toNat)
  case atStart =>
    refine ⟨i / 64 + 1, upd b (i / 64) y, by go_num, Nat.le_refl _, by omega, ?_, Between.start HB.out hy1, only_drew (only_setCell (only_refl _ _) (.inl rfl) _)⟩
    rw [HY.out]; exact (HC.out.set y (by omega)).drew
  case round =>
    obtain ⟨q, c, rfl, hq1, hq2, hcc, hbt, hgr⟩ := hrel
    have k1 := hcc.cell (j := q) (by omega)
    have k2 := hcc.frozen q
    have k3 := hcc.cell (j := (i + n - 1) / 64) (by omega)
    have k4 := hcc.frozen ((i + n - 1) / 64)
    obtain ⟨z, hz, hz1, hz2⟩ := or_mask (hbt.1 ((i + n - 1) / 64) (by omega)) (mask_tail ((i + n - 1) % 64 + 1) (by omega))
    have HZ := Lib.hid hz
    have HCC := Lib.hid hcc
    have HBT := Lib.hid hbt
    have HTZ := Lib.hid hz2
    have HG := Lib.hid hgr
    clear hz hcc hbt hz2 hgr
    by_cases hlt : q < (i + n - 1) / 64
    · go_wp2
      go_roundw
      case rel => exact ⟨q + 1, upd c q 18446744073709551615, by go_num, by omega, by omega, HCC.out.set 18446744073709551615 (by omega), HBT.out.step (by omega) (by decide), only_setCell HG.out (.inl rfl) _⟩
      case measure => simp [intOf]; omega
    · go_wp2
      go_region
      go_wp2
      go_end0
      have hq : q = (i + n - 1) / 64 := by omega
      have HB2 := HBT.out
      rw [hq] at HB2
      have hcz : c ((i + n - 1) / 64) = b ((i + n - 1) / 64) := HB2.2.2.2 _ (by omega) (by omega)
      refine ⟨rfl, upd c ((i + n - 1) / 64) z, setTo_wide (by omega) hi hs HB2 hz1 HT.out (fun k hk => by rw [HTZ.out k hk, hcz]), ?_, ?_⟩
      · rw [HZ.out]; exact (HCC.out.set z (by omega)).drew
      · exact only_drew (only_setCell HG.out (.inl rfl) _)

theorem setRange_any (g t : Nat) (b : Nat → Nat) (i n : Nat) (hn : 1 ≤ n) (hi : i + n ≤ 512) (w : World) (hb : Words b) (hc : Cells8 w g t b) :
    Calls Try.prog 51 #[.pointer (some ⟨g, 0, none⟩), .int .u64 (i : Int), .int .u64 (n : Int)] w (Wrote w g t (SetTo b i n)) := by
  by_cases h1 : n = 1
  · subst h1; exact setRange_one g t b i (by omega) w hb hc
  · by_cases hs : i / 64 = (i + n - 1) / 64
    · exact setRange_same g t b i n (by omega) hi hs w hb hc
    · exact setRange_wide g t b i n (by omega) hi (by omega) w hb hc

end Go.Proofs.Ytkocngnpkfnblaa
