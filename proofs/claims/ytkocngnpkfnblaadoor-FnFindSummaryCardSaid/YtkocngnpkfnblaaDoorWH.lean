/- seats: D. The walks of find1, findBitRange64. -/
import Derived.Test.YtkocngnpkfnblaaDoorMF
import Derived.Test.YtkocngnpkfnblaaDoorWB
import Derived.Test.YtkocngnpkfnblaaDoorWO
namespace Go.Proofs.YtkocngnpkfnblaaDoor
open Go.RowKit

/-- ^x, as the walks spell it -/
theorem not_u64 {x : Nat} (hx : x < 18446744073709551616) : bits BinOp.xor IntKind.u64 (if IntKind.u64.signed = true then -1 else IntKind.u64.max) (x : Int) = ((18446744073709551615 - x : Nat) : Int) := by
  have h : bits .xor .u64 ((18446744073709551615 : Nat) : Int) (x : Int) = ((18446744073709551615 ^^^ x : Nat) : Int) := u64_xor_nat _ x (by decide) hx
  have e : 18446744073709551615 ^^^ x = 18446744073709551615 - x := by
    refine word_ext ?_ (by omega) fun i hi => ?_
    · exact Nat.xor_lt_two_pow (n := 64) (by decide) hx
    · rw [Nat.testBit_xor, tb_max hi, tb_not hx]; simp [hi]
  rw [e] at h
  exact h

set_option maxRecDepth 100000 in
set_option maxHeartbeats 400000 in
theorem find1_any (g t : Nat) (b : Nat → Nat) (s : Nat) (hs : s ≤ 512) (hu : ∀ k, k < s → bt b k = true) (w : World) (hT : Tab w) (hb : Words b) (hc : Cells8 w g t b) :
    Calls Tryd.prog 52 #[.pointer (some ⟨g, 0, none⟩), .int .u64 (s : Int)] w fun e w' => (∃ r : Nat, Seen (bt b) 512 r ∧ e = .returned (.int .u64 r)) ∧ w = w' := by
  have h0 := hc.cell (j := 0) (by omega)
  have HB := Lib.hid hb
  have HC := Lib.hid hc
  have HU := Lib.hid hu
  have HT := Lib.hid hT
  clear hb hc hu hT
  go_enter Tryd.func52, Tryd.ntmps52
  go_wp2
  go_loop [5] (fun i => ∃ q : Nat, q ≤ 8 ∧ i = .int .u64 q ∧ Seen (bt b) (64 * q) 18446744073709551615) (fun i => 8 - (intOf i).toNat)
  case atStart => exact ⟨s / 64, by omega, by go_num, .inl ⟨rfl, fun k hk => HU.out k (by omega)⟩⟩
  case round =>
    obtain ⟨q, hq, rfl, hseen⟩ := hrel
    have HS := Lib.hid hseen
    clear hseen
    by_cases hlt : q < 8
    · have k1 := HC.out.cell (j := q) hlt
      have k2 := HB.out q hlt
      by_cases hm : b q = 18446744073709551615
      · rw [hm] at k1
        have HM := Lib.hid hm
        clear hm k2
        go_wp2
        go_round
        case rel => exact ⟨q + 1, by omega, by go_num, HS.out.used HM.out⟩
        case measure => simp [intOf]; omega
      · have hn := not_u64 k2
        have hd : (((18446744073709551615 - b q : Nat) : Int) == 0) = false := by simp; omega
        have HN := Lib.hid (HS.out.new hlt rfl k2 hm)
        have hc := (not_max k2 hm).1
        clear hm
        go_wp2_with (go_at_call 59; refine (tz_any (18446744073709551615 - b q) (by omega) _ HT.out).mono ?_; rintro e w' ⟨rfl, rfl⟩)
        go_ret
        refine ⟨⟨64 * q + Lib.ctz 64 (18446744073709551615 - b q), ?_, ret_int (by omega)⟩, rfl⟩
        rcases HN.out with h | h
        · omega
        · exact .inr ⟨by omega, h.2⟩
    · obtain rfl : q = 8 := by omega
      go_wp2
      go_ret
      exact ⟨⟨_, HS.out, rfl⟩, rfl⟩

/-- x & 63 -/
theorem and63 {x : Nat} (hx : x < 64) : bits .and .u64 (x : Int) 63 = (x : Int) := by
  have h : bits .and .u64 (x : Int) ((63 : Nat) : Int) = ((x &&& 63 : Nat) : Int) := u64_and_nat x 63 (by omega) (by decide)
  have e : x &&& 63 = x := by
    rw [show (63 : Nat) = 2 ^ 6 - 1 from rfl, Nat.and_two_pow_sub_one_eq_mod, Nat.mod_eq_of_lt hx]
  rw [e] at h
  exact h
theorem and_shr {x : Nat} (hx : x < 18446744073709551616) (s : Nat) : bits .and .u64 (x : Int) ((x : Int) / 2 ^ s) = ((x &&& x / 2 ^ s : Nat) : Int) := by
  have hd : x / 2 ^ s < 18446744073709551616 := Nat.lt_of_le_of_lt (Nat.div_le_self _ _) hx
  rw [powN]
  exact u64_and_nat x (x / 2 ^ s) hx hd

set_option maxRecDepth 100000 in
set_option maxHeartbeats 400000 in
theorem range_any (c n : Nat) (hn : 1 ≤ n) (hn2 : n ≤ 64) (hc : c < 18446744073709551616) (w : World) (hT : Tab w) :
    Calls Tryd.prog 53 #[.int .u64 (c : Int), .int .u64 (n : Int)] w fun e w' => (∃ r : Nat, BitRun c n r ∧ e = .returned (.int .u64 r)) ∧ w = w' := by
  have HC := Lib.hid (Rows1.one hc)
  have HT := Lib.hid hT
  clear hT
  go_enter Tryd.func53, Tryd.ntmps53
  go_wp2
  go_loop [0, 5, 6] (fun x p k => ∃ y m : Nat, 1 ≤ m ∧ m ≤ n ∧ x = .int .u64 y ∧ k = .int .u64 m ∧ p = .int .u64 (n - m : Nat) ∧ Rows1 c m y) (fun _ p _ => (intOf p).toNat)
  case atStart => exact ⟨c, 1, by omega, by omega, rfl, rfl, by go_num, HC.out⟩
  case round =>
    obtain ⟨y, m, h1, h2, rfl, rfl, rfl, hr⟩ := hrel
    have hy := hr.1
    have HR := Lib.hid hr
    clear hr hc
    by_cases h0 : n - m = 0
    · have HF := Lib.hid (show BitRun c n (Lib.ctz 64 y) by have := HR.out.ctz; rwa [show m = n from by omega] at this)
      have hcl := HF.out.le
      rw [h0]
      go_wp2_with (go_at_call 59; refine (tz_any y hy _ HT.out).mono ?_; rintro e w' ⟨rfl, rfl⟩)
      go_ret
      exact ⟨⟨_, HF.out, rfl⟩, rfl⟩
    · by_cases hle : n - m ≤ m
      · have ha := and63 (x := n - m) (by omega)
        have hs := and_shr hy (n - m)
        have HN := Lib.hid (HR.out.step hle)
        have hyn := HN.out.1
        generalize y &&& y / 2 ^ (n - m) = z at *
        have HF := Lib.hid (show BitRun c n (Lib.ctz 64 z) by have := HN.out.ctz; rwa [show m + (n - m) = n from by omega] at this)
        have hcl := HF.out.le
        go_wp2_with (go_at_call 59; refine (tz_any z hyn _ HT.out).mono ?_; rintro e w' ⟨rfl, rfl⟩)
        go_ret
        exact ⟨⟨_, HF.out, rfl⟩, rfl⟩
      · have ha := and63 (x := m) (by omega)
        have hs := and_shr hy m
        have HN := Lib.hid (HR.out.step (Nat.le_refl m))
        have hyn := HN.out.1
        generalize y &&& y / 2 ^ m = z at *
        by_cases hz : z = 0
        · subst hz
          have HF := Lib.hid (HN.out.zero (n := n) (by omega))
          go_wp2
          go_ret
          exact ⟨⟨64, HF.out, rfl⟩, rfl⟩
        · have hd : ((z : Int) == 0) = false := by simp; omega
          go_wp2
          go_round
          case rel => exact ⟨z, m + m, by omega, by omega, rfl, by go_num, by go_num, HN.out⟩
          case measure => simp [intOf]; omega
end Go.Proofs.YtkocngnpkfnblaaDoor
