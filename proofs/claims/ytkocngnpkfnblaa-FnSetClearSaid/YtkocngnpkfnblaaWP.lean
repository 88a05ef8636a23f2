/- seats: P D. The walk of popcntRange: how many bits of the range are 1. -/
import Derived.Test.YtkocngnpkfnblaaWO
namespace Go.Proofs.Ytkocngnpkfnblaa
open Go.RowKit

theorem pc_part {x y s n : Nat} (hs : s + n ≤ 64) (h : ∀ k, k < 64 → y.testBit k = (x.testBit (s + k) && decide (k < n))) : pc y = cnt (fun j => x.testBit j) s n := by
  unfold pc
  rw [show (64 : Nat) = n + (64 - n) from by omega, cnt_add]
  rw [cnt_none (u := fun j => y.testBit j) (i := 0 + n) (n := 64 - n) fun k hk => by
    show y.testBit (0 + n + k) = false
    rw [h _ (by omega)]; simp]
  rw [Nat.add_zero]
  exact cnt_congr fun k hk => by
    show y.testBit (0 + k) = x.testBit (s + k)
    rw [Nat.zero_add, h _ (by omega)]; simp [hk]

theorem cnt_word (b : Nat → Nat) (i n : Nat) (h : i % 64 + n ≤ 64) : cnt (fun j => (b (i / 64)).testBit j) (i % 64) n = cnt (bt b) i n :=
  cnt_congr fun k hk => by
    show (b (i / 64)).testBit (i % 64 + k) = bt b (i + k)
    have := bt_word b (i / 64) (i % 64 + k) (by omega)
    rwa [show 64 * (i / 64) + (i % 64 + k) = i + k from by omega, eq_comm] at this

/-- a part of a word, shifted down and masked -/
theorem and_part {x : Nat} (hx : x < 18446744073709551616) (s n : Nat) (hn : n ≤ 64) :
    ∃ y : Nat, bits .and .u64 ((x : Int) / 2 ^ s) (IntKind.u64.wrap (IntKind.u64.wrap (2 ^ n) - 1)) = (y : Int) ∧ y < 18446744073709551616 ∧ ∀ k, k < 64 → y.testBit k = (x.testBit (s + k) && decide (k < n)) := by
  have hd : x / 2 ^ s < 18446744073709551616 := Nat.lt_of_le_of_lt (Nat.div_le_self _ _) hx
  have hp := pow_le_64 hn
  have h0 := Nat.two_pow_pos n
  refine ⟨x / 2 ^ s &&& (2 ^ n - 1), ?_, Nat.lt_of_le_of_lt Nat.and_le_left hd, fun k _ => ?_⟩
  · rw [mask_ones n hn, powN, ← u64_and_nat (x / 2 ^ s) (2 ^ n - 1) hd (by omega)]
    rfl
  · rw [Nat.testBit_and, tb_ones, Nat.testBit_div_two_pow, Nat.add_comm k s]

theorem shr_part {x : Nat} (hx : x < 18446744073709551616) (s : Nat) :
    ∃ y : Nat, (x : Int) / 2 ^ s = (y : Int) ∧ y < 18446744073709551616 ∧ ∀ k, k < 64 → y.testBit k = (x.testBit (s + k) && decide (k < 64 - s)) := by
  refine ⟨x / 2 ^ s, by rw [powN]; rfl, Nat.lt_of_le_of_lt (Nat.div_le_self _ _) hx, fun k _ => ?_⟩
  rw [Nat.testBit_div_two_pow, Nat.add_comm k s]
  by_cases h : k < 64 - s
  · simp [h]
  · rw [tb_hi hx (by omega)]; simp

theorem and_tail {x : Nat} (hx : x < 18446744073709551616) (n : Nat) (hn : n ≤ 64) :
    ∃ y : Nat, bits .and .u64 (x : Int) (IntKind.u64.wrap (IntKind.u64.wrap (2 ^ n) - 1)) = (y : Int) ∧ y < 18446744073709551616 ∧ ∀ k, k < 64 → y.testBit k = (x.testBit (0 + k) && decide (k < n)) := by
  have hp := pow_le_64 hn
  have h0 := Nat.two_pow_pos n
  refine ⟨x &&& (2 ^ n - 1), ?_, Nat.lt_of_le_of_lt Nat.and_le_left hx, fun k _ => ?_⟩
  · rw [mask_ones n hn, u64_and_nat x (2 ^ n - 1) hx (by omega)]
  · rw [Nat.testBit_and, tb_ones, Nat.zero_add]

theorem and_bit {x : Nat} (hx : x < 18446744073709551616) (s : Nat) : bits .and .u64 ((x : Int) / 2 ^ s) 1 = ((if x.testBit s then 1 else 0 : Nat) : Int) := by
  have hd : x / 2 ^ s < 18446744073709551616 := Nat.lt_of_le_of_lt (Nat.div_le_self _ _) hx
  have h : bits .and .u64 ((x / 2 ^ s : Nat) : Int) 1 = ((x / 2 ^ s &&& 1 : Nat) : Int) := u64_and_nat (x / 2 ^ s) 1 hd (by decide)
  rw [powN, show ((x : Int) / ((2 ^ s : Nat) : Int)) = ((x / 2 ^ s : Nat) : Int) from rfl, h, nat_mask1, Nat.testBit_eq_decide_div_mod_eq]
  congr 1
  simp only [decide_eq_true_eq]
  split <;> omega

set_option maxRecDepth 100000 in
set_option maxHeartbeats 400000 in
theorem popcnt_one (g t : Nat) (b : Nat → Nat) (i : Nat) (hi : i < 512) (w : World) (hb : Words b) (hc : Cells8 w g t b) :
    Calls Try.prog 54 #[.pointer (some ⟨g, 0, none⟩), .int .u64 (i : Int), .int .u64 1] w fun e w' => e = .returned (.int .u64 (cnt (bt b) i 1 : Nat)) ∧ w = w' := by
  have h1 := hc.cell (j := i / 64) (by omega)
  have h2 := hc.frozen (i / 64)
  have HY := Lib.hid (and_bit (hb (i / 64) (by omega)) (i % 64))
  clear hc hb
  go_enter Try.func54, Try.ntmps54
  go_wp2
  go_ret
  refine ⟨ret_int ?_, rfl⟩
  have e : cnt (bt b) i 1 = if (b (i / 64)).testBit (i % 64) then 1 else 0 := by
    show (0 + if bt b (i + 0) then 1 else 0) = _
    rw [Nat.zero_add]
    rfl
  rw [HY.out, e]

set_option maxRecDepth 100000 in
set_option maxHeartbeats 400000 in
theorem popcnt_same (g t : Nat) (b : Nat → Nat) (i n : Nat) (hn : 2 ≤ n) (hi : i + n ≤ 512) (hs : i / 64 = (i + n - 1) / 64) (w : World) (hb : Words b) (hc : Cells8 w g t b) :
    Calls Try.prog 54 #[.pointer (some ⟨g, 0, none⟩), .int .u64 (i : Int), .int .u64 (n : Int)] w fun e w' => e = .returned (.int .u64 (cnt (bt b) i n : Nat)) ∧ w = w' := by
  have h1 := hc.cell (j := i / 64) (by omega)
  have h2 := hc.frozen (i / 64)
  have h4 : ((n : Int) == 1) = false := by simp; omega
  have h5 : ((i : Int) / 64 == ((i : Int) + (n : Int) - 1) / 64) = true := by simp; omega
  have h6 : n ≤ 64 := by omega
  obtain ⟨y, hy, hy1, hy2⟩ := and_part (hb (i / 64) (by omega)) (i % 64) n h6
  have HT := Lib.hid ((pc_part (by omega) hy2).trans (cnt_word b i n (by omega)))
  have hp := pc_le y
  clear hb hc hs hy2
  go_enter Try.func54, Try.ntmps54
  go_wp2_with (go_at_call 64; refine (ones_any y hy1 _).mono ?_; rintro e w' ⟨rfl, rfl⟩)
  go_ret
  exact ⟨ret_int (by rw [HT.out]), rfl⟩

theorem cnt_to (b : Nat → Nat) (i q : Nat) (h : i ≤ 64 * q) : cnt (bt b) i (64 * (q + 1) - i) = cnt (bt b) i (64 * q - i) + pc (b q) := by
  rw [show 64 * (q + 1) - i = (64 * q - i) + 64 from by omega, cnt_add, show i + (64 * q - i) = 64 * q from by omega]
  congr 1
  unfold pc
  exact cnt_congr fun k hk => by
    show bt b (64 * q + k) = (b q).testBit (0 + k)
    rw [bt_word b q k hk, Nat.zero_add]

set_option maxRecDepth 100000 in
set_option maxHeartbeats 800000 in
theorem popcnt_wide (g t : Nat) (b : Nat → Nat) (i n : Nat) (hn : 2 ≤ n) (hi : i + n ≤ 512) (hs : i / 64 < (i + n - 1) / 64) (w : World) (hb : Words b) (hc : Cells8 w g t b) :
    Calls Try.prog 54 #[.pointer (some ⟨g, 0, none⟩), .int .u64 (i : Int), .int .u64 (n : Int)] w fun e w' => e = .returned (.int .u64 (cnt (bt b) i n : Nat)) ∧ w = w' := by
  have h1 := hc.cell (j := i / 64) (by omega)
  have h1' := hc.cell (j := (i + n - 1) / 64) (by omega)
  have h4 : ((n : Int) == 1) = false := by simp; omega
  have h5 : ((i : Int) / 64 == ((i : Int) + (n : Int) - 1) / 64) = false := by simp; omega
  obtain ⟨y, hy, hy1, hy2⟩ := shr_part (hb (i / 64) (by omega)) (i % 64)
  obtain ⟨z, hz, hz1, hz2⟩ := and_tail (hb ((i + n - 1) / 64) (by omega)) ((i + n - 1) % 64 + 1) (by omega)
  have HT := Lib.hid ((pc_part (by omega) hy2).trans (cnt_word b i (64 - i % 64) (by omega)))
  have HZ := Lib.hid ((pc_part (by omega) hz2))
  have hp := pc_le y
  have hp2 := pc_le z
  have HB := Lib.hid hb
  have HC := Lib.hid hc
  have hlast : cnt (bt b) i n = cnt (bt b) i (64 * ((i + n - 1) / 64) - i) + pc z := by
    rw [HZ.out, show n = (64 * ((i + n - 1) / 64) - i) + ((i + n - 1) % 64 + 1) from by omega, cnt_add, show i + (64 * ((i + n - 1) / 64) - i) = 64 * ((i + n - 1) / 64) from by omega]
    rw [← show n = (64 * ((i + n - 1) / 64) - i) + ((i + n - 1) % 64 + 1) from by omega]
    congr 1
    have := cnt_word b (64 * ((i + n - 1) / 64)) ((i + n - 1) % 64 + 1) (by omega)
    rw [show 64 * ((i + n - 1) / 64) / 64 = (i + n - 1) / 64 from by omega, show 64 * ((i + n - 1) / 64) % 64 = 0 from by omega] at this
    exact this.symm
  have HL := Lib.hid hlast
  clear hb hc hy2 hz2 hlast
  go_enter Try.func54, Try.ntmps54
  go_wp2_with (go_at_call 64; refine (ones_any y hy1 _).mono ?_; rintro e w' ⟨rfl, rfl⟩)
  go_loop [6, 8] (fun s k => ∃ q : Nat, i / 64 + 1 ≤ q ∧ q ≤ (i + n - 1) / 64 ∧ k = .int .u64 q ∧ s = .int .u64 (cnt (bt b) i (64 * q - i) : Nat)) (fun _ k => 8 - (intOf k).toNat)
  case atStart =>
    refine ⟨i / 64 + 1, Nat.le_refl _, by omega, by go_num, ?_⟩
    rw [HT.out, show 64 * (i / 64 + 1) - i = 64 - i % 64 from by omega]
  case round =>
    obtain ⟨q, hq1, hq2, rfl, rfl⟩ := hrel
    have hcb := cnt_le (bt b) i (64 * q - i)
    by_cases hlt : q < (i + n - 1) / 64
    · have k1 := HC.out.cell (j := q) (by omega)
      have k2 := HB.out q (by omega)
      have k3 := pc_le (b q)
      have HS := Lib.hid (cnt_to b i q (by omega))
      generalize cnt (bt b) i (64 * q - i) = u at *
      go_wp2_with (go_at_call 64; refine (ones_any (b q) k2 _).mono ?_; rintro e w' ⟨rfl, rfl⟩)
      go_round
      case rel => exact ⟨q + 1, by omega, by omega, by go_num, by rw [HS.out]; go_num⟩
      case measure => simp [intOf]; omega
    · obtain rfl : q = (i + n - 1) / 64 := by omega
      generalize cnt (bt b) i (64 * ((i + n - 1) / 64) - i) = u at *
      go_wp2_with (go_at_call 64; refine (ones_any z hz1 _).mono ?_; rintro e w' ⟨rfl, rfl⟩)
      go_ret
      exact ⟨ret_int (by rw [HL.out]; omega), rfl⟩

theorem popcnt_any (g t : Nat) (b : Nat → Nat) (i n : Nat) (hn : 1 ≤ n) (hi : i + n ≤ 512) (w : World) (hb : Words b) (hc : Cells8 w g t b) :
    Calls Try.prog 54 #[.pointer (some ⟨g, 0, none⟩), .int .u64 (i : Int), .int .u64 (n : Int)] w fun e w' => e = .returned (.int .u64 (cnt (bt b) i n : Nat)) ∧ w = w' := by
  by_cases h1 : n = 1
  · subst h1; exact popcnt_one g t b i (by omega) w hb hc
  · by_cases hs : i / 64 = (i + n - 1) / 64
    · exact popcnt_same g t b i n (by omega) hi hs w hb hc
    · exact popcnt_wide g t b i n (by omega) hi (by omega) w hb hc
end Go.Proofs.Ytkocngnpkfnblaa
