/- seats: D. The walks of findSmallN, findLargeN. -/
import Derived.Test.YtkocngnpkfnblaaDoorWH
namespace Go.Proofs.YtkocngnpkfnblaaDoor
open Go.RowKit

theorem ret_two {a b a' b' : Int} (h : a = a') (h2 : b = b') : Ending.returned (.tuple #[.int .u64 a, .int .u64 b]) = Ending.returned (.tuple #[.int .u64 a', .int .u64 b']) := by rw [h, h2]

set_option maxRecDepth 100000 in
set_option maxHeartbeats 1000000 in
theorem small_any (g t : Nat) (b : Nat → Nat) (n s : Nat) (hn : 1 ≤ n) (hn2 : n ≤ 64) (hs : s ≤ 512) (hu : ∀ k, k < s → bt b k = true) (w : World) (hT : Tab w) (hb : Words b) (hc : Cells8 w g t b) :
    Calls Tryd.prog 55 #[.pointer (some ⟨g, 0, none⟩), .int .u64 (n : Int), .int .u64 (s : Int)] w fun e w' => (∃ r q : Nat, Found (bt b) n r q ∧ e = .returned (.tuple #[.int .u64 r, .int .u64 q])) ∧ w = w' := by
  have HB := Lib.hid hb
  have HC := Lib.hid hc
  have HU := Lib.hid (show ∀ k, k < 64 * (s / 64) → bt b k = true from fun k hk => hu k (by omega))
  have HT := Lib.hid hT
  clear hb hc hu hT
  go_enter Tryd.func55, Tryd.ntmps55
  go_wp2
  go_loop [8, 9, 10] (fun e q i => ∃ en qn k : Nat, k ≤ 8 ∧ en < 64 ∧ i = .int .u64 k ∧ e = .int .u64 en ∧ q = .int .u64 qn ∧ Seen (bt b) (64 * k) qn ∧ IsTail (bt b) (64 * k) en ∧ NoRun (bt b) (64 * k) n) (fun _ _ i => 8 - (intOf i).toNat)
  case atStart => exact ⟨0, 18446744073709551615, s / 64, by omega, by omega, by go_num, rfl, rfl, .inl ⟨rfl, HU.out⟩, tail_start HU.out, norun_start hn HU.out⟩
  case round =>
    obtain ⟨en, qn, k, hk, hen, rfl, rfl, rfl, hseen, htail, hno⟩ := hrel
    have HS := Lib.hid hseen
    have HE := Lib.hid htail
    have HN := Lib.hid hno
    have hle := htail.1
    clear hseen htail hno
    by_cases hlt : k < 8
    · have k1 := HC.out.cell (j := k) hlt
      have k2 := HB.out k hlt
      by_cases hm : b k = 18446744073709551615
      · have HM := Lib.hid hm
        rw [hm] at k1
        clear hm k2
        go_wp2
        go_round
        case rel => exact ⟨0, qn, k + 1, by omega, by omega, by go_num, rfl, rfl, HS.out.used HM.out, tail_max HM.out, norun_max hn HN.out HM.out⟩
        case measure => simp [intOf]; omega
      · obtain ⟨x, hx⟩ : ∃ x, x = b k := ⟨_, rfl⟩
        obtain ⟨y, hy⟩ : ∃ y, y = 18446744073709551615 - x := ⟨_, rfl⟩
        rw [← hx] at k1 k2 hm
        have hnn : bits BinOp.xor IntKind.u64 (if IntKind.u64.signed = true then -1 else IntKind.u64.max) (x : Int) = (y : Int) := by rw [hy]; exact not_u64 k2
        have hd : ((y : Int) == 0) = false := by simp; omega
        have hy1 : y < 18446744073709551616 := by omega
        have hc : Lib.ctz 64 y < 64 := by rw [hy]; exact (not_max k2 hm).1
        have hct := ctz_le x k2
        have hcl := clz_le x
        have HQN : Hid (qn = 18446744073709551615 → Seen (bt b) (64 * (k + 1)) (64 * k + Lib.ctz 64 y)) := by
          rw [hy]; rw [hx] at k2 hm ⊢; exact fun h => HS.out.new hlt h k2 hm
        have HRL : Hid (∀ r, BitRun y n r → en + Lib.ctz 64 x < n → r < 64 → 64 * k + r < 512 ∧ IsFirst (bt b) 512 n (64 * k + r)) := by
          rw [hy]; rw [hx] at k2 hm ⊢; exact fun r h1 h2 h3 => first_inside hlt hn hn2 k2 HE.out HN.out h2 h1 h3
        have HRN : Hid (BitRun y n 64 → en + Lib.ctz 64 x < n → NoRun (bt b) (64 * (k + 1)) n) := by
          rw [hy]; rw [hx] at k2 hm ⊢; exact fun h1 h2 => norun_small hn k2 HE.out HN.out h2 h1
        have HTL : Hid (en + Lib.ctz 64 x < n → clz x < 64 ∧ IsTail (bt b) (64 * (k + 1)) (clz x)) := by
          intro h2
          have h0 : x ≠ 0 := by intro h0; rw [h0, ctz_zero] at h2; omega
          rw [hx] at k2 h0 ⊢
          exact ⟨((clz_spec k2).2 h0).1, tail_clz k2 h0⟩
        have HF : Hid (n ≤ en + Lib.ctz 64 x → 64 * k - en < 512 ∧ IsFirst (bt b) 512 n (64 * k - en)) := by
          rw [hx] at k2 ⊢; exact fun h => first_border hlt hn k2 HE.out HN.out h
        clear hx hy hm
        by_cases hbig : n ≤ en + Lib.ctz 64 x
        · by_cases hq : qn = 18446744073709551615
          · have hqd : ((qn : Int) == 18446744073709551615) = true := by simp; omega
            go_wp2_with fail
            refine (tz_any y hy1 _ HT.out).mono ?_
            rintro e w' ⟨rfl, rfl⟩
            go_wp2_with fail
            refine (tz_any x k2 _ HT.out).mono ?_
            rintro e w' ⟨rfl, rfl⟩
            have HR := Lib.hid (HF.out hbig)
            have hre := HR.out.1
            go_wp2
            go_ret2
            exact ⟨⟨64 * k - en, 64 * k + Lib.ctz 64 y, .inl ⟨hre, HR.out.2, (HQN.out hq).grow (by omega) (by omega)⟩, ret_two (by omega) (by omega)⟩, rfl⟩
          · have hqd : ((qn : Int) == 18446744073709551615) = false := by simp; omega
            go_wp2_with fail
            refine (tz_any x k2 _ HT.out).mono ?_
            rintro e w' ⟨rfl, rfl⟩
            have HR := Lib.hid (HF.out hbig)
            have hre := HR.out.1
            go_wp2
            go_ret2
            exact ⟨⟨64 * k - en, qn, .inl ⟨hre, HR.out.2, HS.out.grow hk hq⟩, ret_two (by omega) (by omega)⟩, rfl⟩
        · by_cases hq : qn = 18446744073709551615
          · have hqd : ((qn : Int) == 18446744073709551615) = true := by simp; omega
            go_wp2_with fail
            refine (tz_any y hy1 _ HT.out).mono ?_
            rintro e w' ⟨rfl, rfl⟩
            go_wp2_with fail
            refine (tz_any x k2 _ HT.out).mono ?_
            rintro e w' ⟨rfl, rfl⟩
            go_wp2_with fail
            refine (range_any y n hn hn2 hy1 _ HT.out).mono ?_
            rintro e w' ⟨⟨r, hrun, rfl⟩, rfl⟩
            have HL := Lib.hid hrun
            have hrl := hrun.le
            clear hrun
            by_cases hr : r < 64
            · have HR := Lib.hid (HRL.out r HL.out (by omega) hr)
              have hre := HR.out.1
              go_wp2
              go_ret2
              exact ⟨⟨64 * k + r, 64 * k + Lib.ctz 64 y, .inl ⟨hre, HR.out.2, (HQN.out hq).grow (by omega) (by omega)⟩, ret_two (by omega) (by omega)⟩, rfl⟩
            · obtain rfl : r = 64 := by omega
              have HR := Lib.hid (HRN.out HL.out (by omega))
              have HR2 := Lib.hid (HTL.out (by omega))
              go_wp2_with fail
              refine (lz_any x k2 _).mono ?_
              rintro e w' ⟨rfl, rfl⟩
              go_wp2
              go_round
              case rel => exact ⟨clz x, 64 * k + Lib.ctz 64 y, k + 1, by omega, HR2.out.1, by go_num, rfl, by go_num, HQN.out hq, HR2.out.2, HR.out⟩
              case measure => simp [intOf]; omega
          · have hqd : ((qn : Int) == 18446744073709551615) = false := by simp; omega
            go_wp2_with fail
            refine (tz_any x k2 _ HT.out).mono ?_
            rintro e w' ⟨rfl, rfl⟩
            go_wp2_with fail
            refine (range_any y n hn hn2 hy1 _ HT.out).mono ?_
            rintro e w' ⟨⟨r, hrun, rfl⟩, rfl⟩
            have HL := Lib.hid hrun
            have hrl := hrun.le
            clear hrun
            by_cases hr : r < 64
            · have HR := Lib.hid (HRL.out r HL.out (by omega) hr)
              have hre := HR.out.1
              go_wp2
              go_ret2
              exact ⟨⟨64 * k + r, qn, .inl ⟨hre, HR.out.2, HS.out.grow hk hq⟩, ret_two (by omega) (by omega)⟩, rfl⟩
            · obtain rfl : r = 64 := by omega
              have HR := Lib.hid (HRN.out HL.out (by omega))
              have HR2 := Lib.hid (HTL.out (by omega))
              go_wp2_with fail
              refine (lz_any x k2 _).mono ?_
              rintro e w' ⟨rfl, rfl⟩
              go_wp2
              go_round
              case rel => exact ⟨clz x, qn, k + 1, by omega, HR2.out.1, by go_num, rfl, by go_num, HS.out.old hq _ (by omega), HR2.out.2, HR.out⟩
              case measure => simp [intOf]; omega
    · obtain rfl : k = 8 := by omega
      go_wp2
      go_ret2
      exact ⟨⟨_, _, .inr ⟨rfl, HN.out⟩, rfl⟩, rfl⟩
set_option maxRecDepth 100000 in
set_option maxHeartbeats 1000000 in
theorem large_any (g t : Nat) (b : Nat → Nat) (n s : Nat) (hn : 65 ≤ n) (hn2 : n ≤ 512) (hs : s ≤ 512) (hu : ∀ k, k < s → bt b k = true) (w : World) (hT : Tab w) (hb : Words b) (hc : Cells8 w g t b) :
    Calls Tryd.prog 54 #[.pointer (some ⟨g, 0, none⟩), .int .u64 (n : Int), .int .u64 (s : Int)] w fun e w' => (∃ r q : Nat, Found (bt b) n r q ∧ e = .returned (.tuple #[.int .u64 r, .int .u64 q])) ∧ w = w' := by
  have HB := Lib.hid hb
  have HC := Lib.hid hc
  have HU := Lib.hid (show ∀ k, k < 64 * (s / 64) → bt b k = true from fun k hk => hu k (by omega))
  have HT := Lib.hid hT
  clear hb hc hu hT
  go_enter Tryd.func54, Tryd.ntmps54
  go_wp2
  go_loop [8, 9, 10, 11] (fun a z q i => ∃ st sz qn k : Nat, k ≤ 8 ∧ (sz = 0 ∨ st + sz = 64 * k) ∧ i = .int .u64 k ∧ a = .int .u64 st ∧ q = .int .u64 qn ∧ z = .int .u64 sz ∧ Seen (bt b) (64 * k) qn ∧ IsTail (bt b) (64 * k) sz ∧ NoRun (bt b) (64 * k) n) (fun _ _ _ i => 8 - (intOf i).toNat)
  case atStart => exact ⟨18446744073709551615, 0, 18446744073709551615, s / 64, by omega, .inl rfl, by go_num, rfl, rfl, rfl, .inl ⟨rfl, HU.out⟩, tail_start HU.out, norun_start (by omega) HU.out⟩
  case round =>
    obtain ⟨st, sz, qn, k, hk, hst, rfl, rfl, rfl, rfl, hseen, htail, hno⟩ := hrel
    have HS := Lib.hid hseen
    have HE := Lib.hid htail
    have HN := Lib.hid hno
    have hle := htail.1
    have hszn := tail_lt htail hno
    clear hseen htail hno
    by_cases hlt : k < 8
    · have k1 := HC.out.cell (j := k) hlt
      have k2 := HB.out k hlt
      by_cases hm : b k = 18446744073709551615
      · have HM := Lib.hid hm
        rw [hm] at k1
        clear hm k2
        go_wp2
        go_round
        case rel => exact ⟨st, 0, qn, k + 1, by omega, .inl rfl, by go_num, rfl, rfl, rfl, HS.out.used HM.out, tail_max HM.out, norun_max (by omega) HN.out HM.out⟩
        case measure => simp [intOf]; omega
      · obtain ⟨x, hx⟩ : ∃ x, x = b k := ⟨_, rfl⟩
        obtain ⟨y, hy⟩ : ∃ y, y = 18446744073709551615 - x := ⟨_, rfl⟩
        rw [← hx] at k1 k2 hm
        have hnn : bits BinOp.xor IntKind.u64 (if IntKind.u64.signed = true then -1 else IntKind.u64.max) (x : Int) = (y : Int) := by rw [hy]; exact not_u64 k2
        have hd : ((x : Int) == 18446744073709551615) = false := by simp; omega
        have hy1 : y < 18446744073709551616 := by omega
        have hc : Lib.ctz 64 y < 64 := by rw [hy]; exact (not_max k2 hm).1
        have hct := ctz_le x k2
        have hcl := clz_le x
        have HQN : Hid (qn = 18446744073709551615 → Seen (bt b) (64 * (k + 1)) (64 * k + Lib.ctz 64 y)) := by
          rw [hy]; rw [hx] at k2 hm ⊢; exact fun h => HS.out.new hlt h k2 hm
        have HN0 : Hid (sz + Lib.ctz 64 x < n → NoRun (bt b) (64 * (k + 1)) n) := by
          rw [hx] at k2 ⊢; exact fun h2 => norun_large hn k2 HE.out HN.out h2
        have HT0 : Hid (sz = 0 → IsTail (bt b) (64 * (k + 1)) (clz x)) := by
          intro h; have := HE.out; rw [h] at this; rw [hx] at k2 ⊢; exact tail_from_zero k2 this
        have HTC : Hid (Lib.ctz 64 x < 64 → IsTail (bt b) (64 * (k + 1)) (clz x)) := by
          intro h2
          have h0 : x ≠ 0 := by intro h0; rw [h0, ctz_zero] at h2; omega
          rw [hx] at k2 h0 ⊢
          exact tail_clz k2 h0
        have HTA : Hid (¬ Lib.ctz 64 x < 64 → IsTail (bt b) (64 * (k + 1)) (sz + 64)) := by
          intro h2
          have h0 : x = 0 := by
            apply Classical.byContradiction
            intro h0
            exact h2 (ctz_spec h0 k2).1
          rw [hx] at h0
          exact tail_add h0 HE.out
        have HF : Hid (n ≤ sz + Lib.ctz 64 x → 64 * k - sz < 512 ∧ IsFirst (bt b) 512 n (64 * k - sz)) := by
          rw [hx] at k2 ⊢; exact fun h => first_border hlt (by omega) k2 HE.out HN.out h
        clear hx hy hm
        by_cases hz : sz = 0
        · have hzd : ((sz : Int) == 0) = true := by simp; omega
          by_cases hq : qn = 18446744073709551615
          · have hqd : ((qn : Int) == 18446744073709551615) = true := by simp; omega
            go_wp2_with fail
            refine (tz_any y hy1 _ HT.out).mono ?_
            rintro e w' ⟨rfl, rfl⟩
            go_wp2_with fail
            refine (lz_any x k2 _).mono ?_
            rintro e w' ⟨rfl, rfl⟩
            go_wp2
            go_round
            case rel => exact ⟨64 * k + 64 - clz x, clz x, 64 * k + Lib.ctz 64 y, k + 1, by omega, .inr (by omega), by go_num, by go_num, by go_num, rfl, HQN.out hq, HT0.out hz, HN0.out (by omega)⟩
            case measure => simp [intOf]; omega
          · have hqd : ((qn : Int) == 18446744073709551615) = false := by simp; omega
            go_wp2_with fail
            refine (lz_any x k2 _).mono ?_
            rintro e w' ⟨rfl, rfl⟩
            go_wp2
            go_round
            case rel => exact ⟨64 * k + 64 - clz x, clz x, qn, k + 1, by omega, .inr (by omega), by go_num, by go_num, rfl, by go_num, HS.out.old hq _ (by omega), HT0.out hz, HN0.out (by omega)⟩
            case measure => simp [intOf]; omega
        have hzd : ((sz : Int) == 0) = false := by simp; omega
        by_cases hbig : n ≤ sz + Lib.ctz 64 x
        · have hbd : decide ((n : Int) ≤ (Lib.ctz 64 x : Nat) + (sz : Int)) = true := by simp; omega
          by_cases hq : qn = 18446744073709551615
          · have hqd : ((qn : Int) == 18446744073709551615) = true := by simp; omega
            go_wp2_with fail
            refine (tz_any y hy1 _ HT.out).mono ?_
            rintro e w' ⟨rfl, rfl⟩
            go_wp2_with fail
            refine (tz_any x k2 _ HT.out).mono ?_
            rintro e w' ⟨rfl, rfl⟩
            have HR := Lib.hid (HF.out hbig)
            have hre := HR.out.1
            go_wp2
            go_ret2
            exact ⟨⟨64 * k - sz, 64 * k + Lib.ctz 64 y, .inl ⟨hre, HR.out.2, (HQN.out hq).grow (by omega) (by omega)⟩, ret_two (by omega) (by omega)⟩, rfl⟩
          · have hqd : ((qn : Int) == 18446744073709551615) = false := by simp; omega
            go_wp2_with fail
            refine (tz_any x k2 _ HT.out).mono ?_
            rintro e w' ⟨rfl, rfl⟩
            have HR := Lib.hid (HF.out hbig)
            have hre := HR.out.1
            go_wp2
            go_ret2
            exact ⟨⟨64 * k - sz, qn, .inl ⟨hre, HR.out.2, HS.out.grow hk hq⟩, ret_two (by omega) (by omega)⟩, rfl⟩
        have hbd : decide ((n : Int) ≤ (Lib.ctz 64 x : Nat) + (sz : Int)) = false := by simp; omega
        by_cases h64 : Lib.ctz 64 x < 64
        · skip
          by_cases hq : qn = 18446744073709551615
          · have hqd : ((qn : Int) == 18446744073709551615) = true := by simp; omega
            go_wp2_with fail
            refine (tz_any y hy1 _ HT.out).mono ?_
            rintro e w' ⟨rfl, rfl⟩
            go_wp2_with fail
            refine (tz_any x k2 _ HT.out).mono ?_
            rintro e w' ⟨rfl, rfl⟩
            go_wp2_with fail
            refine (lz_any x k2 _).mono ?_
            rintro e w' ⟨rfl, rfl⟩
            go_wp2
            go_round
            case rel => exact ⟨64 * k + 64 - clz x, clz x, 64 * k + Lib.ctz 64 y, k + 1, by omega, .inr (by omega), by go_num, by go_num, by go_num, rfl, HQN.out hq, HTC.out h64, HN0.out (by omega)⟩
            case measure => simp [intOf]; omega
          · have hqd : ((qn : Int) == 18446744073709551615) = false := by simp; omega
            go_wp2_with fail
            refine (tz_any x k2 _ HT.out).mono ?_
            rintro e w' ⟨rfl, rfl⟩
            go_wp2_with fail
            refine (lz_any x k2 _).mono ?_
            rintro e w' ⟨rfl, rfl⟩
            go_wp2
            go_round
            case rel => exact ⟨64 * k + 64 - clz x, clz x, qn, k + 1, by omega, .inr (by omega), by go_num, by go_num, rfl, by go_num, HS.out.old hq _ (by omega), HTC.out h64, HN0.out (by omega)⟩
            case measure => simp [intOf]; omega
        · skip
          by_cases hq : qn = 18446744073709551615
          · have hqd : ((qn : Int) == 18446744073709551615) = true := by simp; omega
            go_wp2_with fail
            refine (tz_any y hy1 _ HT.out).mono ?_
            rintro e w' ⟨rfl, rfl⟩
            go_wp2_with fail
            refine (tz_any x k2 _ HT.out).mono ?_
            rintro e w' ⟨rfl, rfl⟩
            go_wp2
            go_round
            case rel => exact ⟨st, sz + 64, 64 * k + Lib.ctz 64 y, k + 1, by omega, .inr (by omega), by go_num, rfl, by go_num, by go_num, HQN.out hq, HTA.out (by omega), HN0.out (by omega)⟩
            case measure => simp [intOf]; omega
          · have hqd : ((qn : Int) == 18446744073709551615) = false := by simp; omega
            go_wp2_with fail
            refine (tz_any x k2 _ HT.out).mono ?_
            rintro e w' ⟨rfl, rfl⟩
            go_wp2
            go_round
            case rel => exact ⟨st, sz + 64, qn, k + 1, by omega, .inr (by omega), by go_num, rfl, by go_num, by go_num, HS.out.old hq _ (by omega), HTA.out (by omega), HN0.out (by omega)⟩
            case measure => simp [intOf]; omega
    · obtain rfl : k = 8 := by omega
      go_wp2
      go_ret2
      exact ⟨⟨_, _, .inr ⟨rfl, HN.out⟩, rfl⟩, rfl⟩
end Go.Proofs.YtkocngnpkfnblaaDoor
