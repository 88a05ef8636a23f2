/- seats: D. The walk of summarize. -/
import Derived.Test.YtkocngnpkfnblaaDoorMS
import Derived.Test.YtkocngnpkfnblaaDoorWH
import Derived.Test.YtkocngnpkfnblaaDoorWU
import Derived.WalkMore
namespace Go.Proofs.YtkocngnpkfnblaaDoor
open Go.RowKit

theorem IsSum.le {u : Nat → Bool} {L s m e : Nat} (h : IsSum u L s m e) : s ≤ L ∧ m ≤ L ∧ e ≤ L := by
  obtain ⟨⟨h1, _⟩, ⟨⟨i, h2, _⟩, _⟩, h3, _⟩ := h
  omega
theorem IsSum.sums {u : Nat → Bool} {L s m e : Nat} (h : IsSum u L s m e) (hL : L < 2097152) : Sums s m e := by
  have := h.le
  exact .inl (by omega)

/-- x & (x + 1): v is the sum, q the whole -/
theorem and_succ {x : Nat} (hx : x < 18446744073709551616) : ∃ v q : Nat, q = x &&& ((x + 1) % 18446744073709551616) ∧ IntKind.u64.wrap ((x : Int) + 1) = (v : Int) ∧ bits .and .u64 (x : Int) (v : Int) = (q : Int) := by
  refine ⟨(x + 1) % 18446744073709551616, _, rfl, ?_, ?_⟩
  · rw [show ((x : Int) + 1) = ((x + 1 : Nat) : Int) from rfl, wrapN]
  · exact u64_and_nat x _ hx (Nat.mod_lt _ (by decide))
theorem or_shr {x : Nat} (hx : x < 18446744073709551616) (s : Nat) : bits .or .u64 (x : Int) ((x : Int) / 2 ^ s) = ((x ||| x / 2 ^ s : Nat) : Int) := by
  have hd : x / 2 ^ s < 18446744073709551616 := Nat.lt_of_le_of_lt (Nat.div_le_self _ _) hx
  rw [powN]
  exact u64_or_nat x (x / 2 ^ s) hx hd
theorem and63i {c : Nat} (hc : c ≤ 64) : bits .and .i64 (c : Int) 63 = ((c % 64 : Nat) : Int) := by
  have : ∀ c : Nat, c ≤ 64 → bits .and .i64 (c : Int) 63 = ((c % 64 : Nat) : Int) := by decide +kernel
  exact this c hc

set_option maxRecDepth 100000 in
set_option maxHeartbeats 2000000 in
theorem summarize_any (g t : Nat) (b : Nat → Nat) (w : World) (hT : Tab w) (hb : Words b) (hc : Cells8 w g t b) :
    Calls Tryd.prog 46 #[.pointer (some ⟨g, 0, none⟩)] w fun e w' => (∃ s m c : Nat, IsSum (bt b) 512 s m c ∧ e = .returned (.int .u64 (packN s m c : Nat))) ∧ w = w' := by
  have HB := Lib.hid hb
  have HC := Lib.hid hc
  have HT := Lib.hid hT
  clear hb hc hT
  go_enter Tryd.func46, Tryd.ntmps46
  go_wp2
  go_step3
  go_wp2
  go_loop [3, 4, 5, 6] (fun s m c i => ∃ sn mn cn k : Nat, k ≤ 8 ∧ mn ≤ 64 * k ∧ i = .int .i64 k ∧ s = .int .u64 sn ∧ m = .int .u64 mn ∧ c = .int .u64 cn ∧ Head (bt b) (64 * k) sn ∧ IsTail (bt b) (64 * k) cn ∧ Att (bt b) (64 * k) mn ∧ Brd b k mn cn) (fun _ _ _ i => 8 - (intOf i).toNat)
  case atStart => exact ⟨18446744073709551615, 0, 0, 0, by omega, by omega, rfl, rfl, rfl, rfl, .inl ⟨rfl, by omega⟩, ⟨by omega, Clear.zero _ _, by omega⟩, Att.zero _ _, Brd.zero _ _ _⟩
  case round =>
    obtain ⟨sn, mn, cn, k, hk, hm, rfl, rfl, rfl, rfl, hhead, htail, hatt, hbrd⟩ := hrel
    have HH := Lib.hid hhead
    have HE := Lib.hid htail
    have HA := Lib.hid hatt
    have HR := Lib.hid hbrd
    have hle := htail.1
    clear hhead htail hatt hbrd
    by_cases hlt : k < 8
    · have k1 := HC.out.cell (j := k) hlt
      have k2 := HB.out k hlt
      by_cases h0 : b k = 0
      · rw [h0] at k1
        have HZ := Lib.hid h0
        clear h0 k2
        go_wp2
        go_round
        case rel => exact ⟨sn, mn, cn + 64, k + 1, by omega, by omega, by go_num, rfl, rfl, by go_num, HH.out.free HZ.out, tail_add HZ.out HE.out, HA.out.grow (by omega), HR.out.free HE.out HZ.out⟩
        case measure => simp [intOf]; omega
      · have hct := (ctz_spec h0 k2).1
        have hcl := clz_le (b k)
        have hd : ((b k : Int) == 0) = false := by simp; omega
        have HN := Lib.hid (HR.out.some HE.out k2 h0)
        have HN2 := Lib.hid (tail_clz (i := k) k2 h0)
        have HN3 := Lib.hid ((HA.out.grow (L' := 64 * (k + 1)) (by omega)).max (att_border HE.out k2))
        have HN4 : Hid (sn = 18446744073709551615 → Head (bt b) (64 * (k + 1)) (cn + Lib.ctz 64 (b k))) := fun h => HH.out.new hlt h HE.out k2 h0
        clear h0
        have hmx : max mn (cn + Lib.ctz 64 (b k)) ≤ 64 * (k + 1) := by omega
        by_cases hs : sn = 18446744073709551615
        · have hsd : ((sn : Int) == 18446744073709551615) = true := by simp; omega
          go_wp2_with fail
          refine (tz_any (b k) k2 _ HT.out).mono ?_
          rintro e w' ⟨rfl, rfl⟩
          go_wp2_with fail
          refine (lz_any (b k) k2 _).mono ?_
          rintro e w' ⟨rfl, rfl⟩
          go_wp2
          go_round
          case rel => exact ⟨cn + Lib.ctz 64 (b k), max mn (cn + Lib.ctz 64 (b k)), clz (b k), k + 1, by omega, hmx, by go_num, by go_num, by congr 1; omega, rfl, HN4.out hs, HN2.out, HN3.out, HN.out⟩
          case measure => simp [intOf]; omega
        · have hsd : ((sn : Int) == 18446744073709551615) = false := by simp; omega
          go_wp2_with fail
          refine (tz_any (b k) k2 _ HT.out).mono ?_
          rintro e w' ⟨rfl, rfl⟩
          go_wp2_with fail
          refine (lz_any (b k) k2 _).mono ?_
          rintro e w' ⟨rfl, rfl⟩
          go_wp2
          go_round
          case rel => exact ⟨sn, max mn (cn + Lib.ctz 64 (b k)), clz (b k), k + 1, by omega, hmx, by go_num, rfl, by congr 1; omega, rfl, HH.out.old hs (by omega), HN2.out, HN3.out, HN.out⟩
          case measure => simp [intOf]; omega
    · obtain rfl : k = 8 := by omega
      clear hlt
      by_cases hs : sn = 18446744073709551615
      · have HF := Lib.hid (HH.out.none hs)
        have hsd : ((sn : Int) == 18446744073709551615) = true := by simp; omega
        go_wp2_with fail
        refine (pack_any 512 512 512 _ (HF.out.sums (by decide))).mono ?_
        rintro e w' ⟨rfl, rfl⟩
        go_wp2
        simp only [Exit.noGoto_ret]
        go_ret
        exact ⟨⟨_, _, _, HF.out, rfl⟩, rfl⟩
      · have hsd : ((sn : Int) == 18446744073709551615) = false := by simp; omega
        have HR1 := Lib.hid (HH.out.run hs)
        have hr1 := HR1.out.1
        have HA1 := Lib.hid (HA.out.max (Att.tail HE.out))
        have HI1 := Lib.hid (HR.out.ins HE.out)
        have hM : max (mn : Int) (cn : Int) = ((max mn cn : Nat) : Int) := by omega
        have hMle : max mn cn ≤ 512 := by omega
        clear hsd hs
        by_cases hbig : 62 ≤ max mn cn
        · have HF := Lib.hid (show IsSum (bt b) 512 sn (max mn cn) cn from ⟨HR1.out, HI1.out.most (.inl hbig) HA1.out, HE.out⟩)
          generalize max mn cn = M at *
          go_wp2_with fail
          refine (pack_any sn M cn _ (HF.out.sums (by decide))).mono ?_
          rintro e w' ⟨rfl, rfl⟩
          go_wp2
          simp only [Exit.noGoto_ret]
          go_ret
          exact ⟨⟨_, _, _, HF.out, rfl⟩, rfl⟩
        · generalize max mn cn = M at *
          clear hm
          go_wp2
          go_step3
          go_wp2
          go_loop [4, 10] (fun m i => ∃ mo k : Nat, k ≤ 8 ∧ mo ≤ 63 ∧ i = .int .i64 k ∧ m = .int .u64 mo ∧ Att (bt b) 512 mo ∧ Ins b k mo) (fun _ i => 8 - (intOf i).toNat)
          case atStart => exact ⟨M, 0, by omega, by omega, rfl, by first | rfl | (congr 1; omega), HA1.out, HI1.out⟩
          case round =>
            obtain ⟨mo, k, hk, hmo, rfl, rfl, hatt, hins⟩ := hrel
            have HA2 := Lib.hid hatt
            have HI2 := Lib.hid hins
            clear hatt hins
            by_cases hlt : k < 8
            · have k1 := HC.out.cell (j := k) hlt
              have k2 := HB.out k hlt
              have hc := ctz_le (b k) k2
              have ha := and63i hc
              obtain ⟨z, hz⟩ : ∃ z, z = b k / 2 ^ (Lib.ctz 64 (b k) % 64) := ⟨_, rfl⟩
              have HFI : Hid (Fil (b k) z z (Lib.ctz 64 (b k) % 64) 0) := by rw [hz]; exact Fil.first k2
              have HRE : Hid (Rest (b k) z mo) := by rw [hz]; exact Rest.first k2 mo
              have hz1 := HFI.out.2.1
              obtain ⟨v, q, hq, hv, hvq⟩ := and_succ hz1
              have hzz : (b k : Int) / 2 ^ (Lib.ctz 64 (b k) % 64) = (z : Int) := by rw [hz, powN]; rfl
              clear hz
              go_wp2_with fail
              refine (tz_any (b k) k2 _ HT.out).mono ?_
              rintro e w' ⟨rfl, rfl⟩
              clear hr1 hM hMle hbig hle
              by_cases h0 : q = 0
              · have HG := Lib.hid (HFI.out.done (by rw [← hq, h0]) HRE.out (Nat.zero_le _))
                have h0d : ((q : Int) == 0) = true := by simp; omega
                clear hq h0
                go_wp2
                go_round
                case rel => exact ⟨mo, k + 1, by omega, by omega, by go_num, rfl, HA2.out, HI2.out.step hlt (Nat.le_refl _) HG.out⟩
                case measure => simp [intOf]; omega
              · have h0d : ((q : Int) == 0) = false := by simp; omega
                have HQ1 := Lib.hid (show z &&& ((z + 1) % 18446744073709551616) ≠ 0 by rw [← hq]; exact h0)
                clear hq h0
                --INNER--
                go_wp2
                go_loop [4, 11, 12, 13] (fun m x p c => ∃ m1 xn pn kk mm z S : Nat, m1 ≤ 63 ∧ mo ≤ m1 ∧ mm + pn = m1 ∧ 1 ≤ kk ∧ kk ≤ mm + 1 ∧ m = .int .u64 m1 ∧ x = .int .u64 xn ∧ p = .int .u64 pn ∧ c = .int .u64 kk ∧ xn &&& ((xn + 1) % 18446744073709551616) ≠ 0 ∧ Fil (b k) z xn S mm ∧ Rest (b k) z m1 ∧ Att (bt b) 512 m1) (fun m _ _ _ => 64 - (intOf m).toNat)
                case atStart => exact ⟨mo, z, mo, 1, 0, z, _, by omega, by omega, by omega, by omega, by omega, rfl, by first | rfl | (rw [hzz]) | (congr 1), rfl, rfl, HQ1.out, HFI.out, HRE.out, HA2.out⟩
                case round =>
                  clear hzz hv hvq h0d ha hc hz1 HFI HRE HQ1
                  have HX0 := Lib.hid k2
                  clear k1 k2
                  obtain ⟨m1, x0, p0, kk0, mm0, z, S, hm1, hmm, hsum0, hk10, hk20, rfl, rfl, rfl, rfl, hne0, hfil0, hrest, hatt⟩ := hrel
                  have HF0 := Lib.hid hfil0
                  have HR3 := Lib.hid hrest
                  have HA3 := Lib.hid hatt
                  have HN0 := Lib.hid hne0
                  clear hfil0 hrest hatt hne0
                  go_wp2
                  go_loop [11, 12, 13] (fun x p c => ∃ xn pn kk mm : Nat, mm + pn = m1 ∧ 1 ≤ kk ∧ kk ≤ mm + 1 ∧ x = .int .u64 xn ∧ p = .int .u64 pn ∧ c = .int .u64 kk ∧ xn &&& ((xn + 1) % 18446744073709551616) ≠ 0 ∧ Fil (b k) z xn S mm) (fun _ p _ => (intOf p).toNat)
                  case atStart => exact ⟨x0, p0, kk0, mm0, hsum0, hk10, hk20, rfl, rfl, rfl, HN0.out, HF0.out⟩
                  case round =>
                    clear HF0 HN0 hsum0 hk10 hk20
                    obtain ⟨x, p, kk, mm, hsum, hkk1, hkk2, rfl, rfl, rfl, hne, hfil⟩ := hrel
                    have HF1 := Lib.hid hfil
                    have HN1 := Lib.hid hne
                    have hx1 := hfil.2.1
                    clear hfil hne
                    by_cases hp0 : p = 0
                    · obtain rfl : mm = m1 := by omega
                      subst hp0
                      have HF1' : Hid (Fil (b k) z x S mm) := HF1
                      obtain ⟨nx, hnx⟩ : ∃ nx, nx = 18446744073709551615 - x := ⟨_, rfl⟩
                      obtain ⟨t, ht⟩ : ∃ t, t = Lib.ctz 64 nx := ⟨_, rfl⟩
                      obtain ⟨y, hy⟩ : ∃ y, y = x / 2 ^ t := ⟨_, rfl⟩
                      obtain ⟨jj, hjj⟩ : ∃ jj, jj = Lib.ctz 64 y := ⟨_, rfl⟩
                      obtain ⟨y2, hy2⟩ : ∃ y2, y2 = y / 2 ^ jj := ⟨_, rfl⟩
                      have HX := Lib.hid (HF1.out.next HX0.out HN1.out HR3.out (by rw [ht, hnx]) hy hjj hy2)
                      obtain ⟨t1, j1, j2, y1, _⟩ := HX.out
                      have HF2 := Lib.hid HX.out.2.2.2.2.1
                      have HR4 := Lib.hid HX.out.2.2.2.2.2.1
                      have HA4 : Hid (mm + jj ≤ 63 ∧ Att (bt b) 512 (mm + jj)) := by
                        obtain ⟨p0, p1, p2⟩ := HX.out.2.2.2.2.2.2
                        exact ⟨by omega, att_inside hlt p1 p2⟩
                      have hmj := HA4.out.1
                      have hxl := HF1.out.2.1
                      have hy2l := HF2.out.2.1
                      have hnx1 : nx < 18446744073709551616 := by omega
                      have hnn : bits BinOp.xor IntKind.u64 (if IntKind.u64.signed = true then -1 else IntKind.u64.max) (x : Int) = (nx : Int) := by rw [hnx]; exact not_u64 hxl
                      have hty : (x : Int) / 2 ^ t = (y : Int) := by rw [hy, powN]; rfl
                      have hyy : (y : Int) / 2 ^ jj = (y2 : Int) := by rw [hy2, powN]; rfl
                      have hta := and63 t1
                      have hja := and63 j2
                      obtain ⟨v2, q2, hq2, hv2, hvq2⟩ := and_succ hy2l
                      have HT2 := Lib.hid ht
                      have HJ2 := Lib.hid hjj
                      clear HX hnx ht hy hjj hy2
                      by_cases h02 : q2 = 0
                      · have h02d : ((q2 : Int) == 0) = true := by simp; omega
                        have HG2 := Lib.hid (HF2.out.done (by rw [← hq2, h02]) HR4.out (Nat.le_add_right _ _))
                        clear hq2 h02
                        go_wp2_with fail
                        refine (tz_any nx hnx1 _ HT.out).mono ?_
                        rintro e w' ⟨rfl, rfl⟩
                        rw [← HT2.out]
                        go_wp2_with fail
                        refine (tz_any y y1 _ HT.out).mono ?_
                        rintro e w' ⟨rfl, rfl⟩
                        rw [← HJ2.out]
                        go_wp2
                        go_round
                        case rel => exact ⟨mm + jj, k + 1, by omega, by omega, by go_num, by go_num, HA4.out.2, HI2.out.step hlt (by omega) HG2.out⟩
                        case measure => simp [intOf]; omega
                      · have h02d : ((q2 : Int) == 0) = false := by simp; omega
                        have HQ2 := Lib.hid (show y2 &&& ((y2 + 1) % 18446744073709551616) ≠ 0 by rw [← hq2]; exact h02)
                        clear hq2 h02
                        go_wp2_with fail
                        refine (tz_any nx hnx1 _ HT.out).mono ?_
                        rintro e w' ⟨rfl, rfl⟩
                        rw [← HT2.out]
                        go_wp2_with fail
                        refine (tz_any y y1 _ HT.out).mono ?_
                        rintro e w' ⟨rfl, rfl⟩
                        rw [← HJ2.out]
                        go_wp2
                        go_round
                        case rel => exact ⟨mm + jj, y2, jj, kk, mm, _, _, by omega, by omega, by omega, by omega, by omega, by go_num, rfl, by go_num, rfl, HQ2.out, HF2.out, HR4.out, HA4.out.2⟩
                        case measure => simp [intOf]; omega
                    · by_cases hpk : p ≤ kk
                      · skip
                        have hsa := and63 (x := p) (by omega)
                        have hso := or_shr hx1 p
                        obtain ⟨x2, hx2⟩ : ∃ x2, x2 = x ||| x / 2 ^ p := ⟨_, rfl⟩
                        have HF3 : Hid (Fil (b k) z x2 S (mm + p)) := by rw [hx2]; exact HF1.out.fill (by omega)
                        rw [← hx2] at hso
                        have hx21 := HF3.out.2.1
                        obtain ⟨v2, q2, hq2, hv2, hvq2⟩ := and_succ hx21
                        clear hx2
                        by_cases h02 : q2 = 0
                        · have h02d : ((q2 : Int) == 0) = true := by simp; omega
                          have HG2 := Lib.hid (HF3.out.done (by rw [← hq2, h02]) HR3.out (by omega))
                          clear hq2 h02
                          go_wp2
                          go_round
                          case rel => exact ⟨m1, k + 1, by omega, by omega, by go_num, rfl, HA3.out, HI2.out.step hlt (by omega) HG2.out⟩
                          case measure => simp [intOf]; omega
                        · have h02d : ((q2 : Int) == 0) = false := by simp; omega
                          have HQ3 := Lib.hid (show x2 &&& ((x2 + 1) % 18446744073709551616) ≠ 0 by rw [← hq2]; exact h02)
                          clear hq2 h02
                          have HF5 : Hid (Fil (b k) z x2 S m1) := by rw [← hsum]; exact HF3

                          obtain ⟨nx, hnx⟩ : ∃ nx, nx = 18446744073709551615 - x2 := ⟨_, rfl⟩
                          obtain ⟨t, ht⟩ : ∃ t, t = Lib.ctz 64 nx := ⟨_, rfl⟩
                          obtain ⟨y, hy⟩ : ∃ y, y = x2 / 2 ^ t := ⟨_, rfl⟩
                          obtain ⟨jj, hjj⟩ : ∃ jj, jj = Lib.ctz 64 y := ⟨_, rfl⟩
                          obtain ⟨y2, hy2⟩ : ∃ y2, y2 = y / 2 ^ jj := ⟨_, rfl⟩
                          have HX := Lib.hid (HF5.out.next HX0.out HQ3.out HR3.out (by rw [ht, hnx]) hy hjj hy2)
                          obtain ⟨t1, j1, j2, y1, _⟩ := HX.out
                          have HF2 := Lib.hid HX.out.2.2.2.2.1
                          have HR4 := Lib.hid HX.out.2.2.2.2.2.1
                          have HA4 : Hid (m1 + jj ≤ 63 ∧ Att (bt b) 512 (m1 + jj)) := by
                            obtain ⟨p0, p1, p2⟩ := HX.out.2.2.2.2.2.2
                            exact ⟨by omega, att_inside hlt p1 p2⟩
                          have hmj := HA4.out.1
                          have hxl := HF5.out.2.1
                          have hy2l := HF2.out.2.1
                          have hnx1 : nx < 18446744073709551616 := by omega
                          have hnn : bits BinOp.xor IntKind.u64 (if IntKind.u64.signed = true then -1 else IntKind.u64.max) (x2 : Int) = (nx : Int) := by rw [hnx]; exact not_u64 hxl
                          have hty : (x2 : Int) / 2 ^ t = (y : Int) := by rw [hy, powN]; rfl
                          have hyy : (y : Int) / 2 ^ jj = (y2 : Int) := by rw [hy2, powN]; rfl
                          have hta := and63 t1
                          have hja := and63 j2
                          obtain ⟨v3, q3, hq3, hv3, hvq3⟩ := and_succ hy2l
                          have HT2 := Lib.hid ht
                          have HJ2 := Lib.hid hjj
                          clear HX hnx ht hy hjj hy2
                          by_cases h02 : q3 = 0
                          · have h02d : ((q3 : Int) == 0) = true := by simp; omega
                            have HG2 := Lib.hid (HF2.out.done (by rw [← hq3, h02]) HR4.out (Nat.le_add_right _ _))
                            clear hq3 h02
                            go_wp2_with fail
                            refine (tz_any nx hnx1 _ HT.out).mono ?_
                            rintro e w' ⟨rfl, rfl⟩
                            rw [← HT2.out]
                            go_wp2_with fail
                            refine (tz_any y y1 _ HT.out).mono ?_
                            rintro e w' ⟨rfl, rfl⟩
                            rw [← HJ2.out]
                            go_wp2
                            go_round
                            case rel => exact ⟨m1 + jj, k + 1, by omega, by omega, by go_num, by go_num, HA4.out.2, HI2.out.step hlt (by omega) HG2.out⟩
                            case measure => simp [intOf]; omega
                          · have h02d : ((q3 : Int) == 0) = false := by simp; omega
                            have HQ2 := Lib.hid (show y2 &&& ((y2 + 1) % 18446744073709551616) ≠ 0 by rw [← hq3]; exact h02)
                            clear hq3 h02
                            go_wp2_with fail
                            refine (tz_any nx hnx1 _ HT.out).mono ?_
                            rintro e w' ⟨rfl, rfl⟩
                            rw [← HT2.out]
                            go_wp2_with fail
                            refine (tz_any y y1 _ HT.out).mono ?_
                            rintro e w' ⟨rfl, rfl⟩
                            rw [← HJ2.out]
                            go_wp2
                            go_round
                            case rel => exact ⟨m1 + jj, y2, jj, kk, m1, _, _, by omega, by omega, by omega, by omega, by omega, by go_num, rfl, by go_num, rfl, HQ2.out, HF2.out, HR4.out, HA4.out.2⟩
                            case measure => simp [intOf]; omega
                      · skip
                        have hsa := and63 (x := kk) (by omega)
                        have hso := or_shr hx1 kk
                        obtain ⟨x2, hx2⟩ : ∃ x2, x2 = x ||| x / 2 ^ kk := ⟨_, rfl⟩
                        have HF3 : Hid (Fil (b k) z x2 S (mm + kk)) := by rw [hx2]; exact HF1.out.fill (by omega)
                        rw [← hx2] at hso
                        have hx21 := HF3.out.2.1
                        obtain ⟨v2, q2, hq2, hv2, hvq2⟩ := and_succ hx21
                        clear hx2
                        by_cases h02 : q2 = 0
                        · have h02d : ((q2 : Int) == 0) = true := by simp; omega
                          have HG2 := Lib.hid (HF3.out.done (by rw [← hq2, h02]) HR3.out (by omega))
                          clear hq2 h02
                          go_wp2
                          go_round
                          case rel => exact ⟨m1, k + 1, by omega, by omega, by go_num, rfl, HA3.out, HI2.out.step hlt (by omega) HG2.out⟩
                          case measure => simp [intOf]; omega
                        · have h02d : ((q2 : Int) == 0) = false := by simp; omega
                          have HQ3 := Lib.hid (show x2 &&& ((x2 + 1) % 18446744073709551616) ≠ 0 by rw [← hq2]; exact h02)
                          clear hq2 h02
                          go_wp2
                          go_round
                          case rel => exact ⟨x2, p - kk, kk + kk, mm + kk, by omega, by omega, by omega, rfl, by go_num, by go_num, HQ3.out, HF3.out⟩
                          case measure => simp [intOf]; omega
            · obtain rfl : k = 8 := by omega
              have HF := Lib.hid (show IsSum (bt b) 512 sn mo cn from ⟨HR1.out, HI2.out.most (.inr (by omega)) HA2.out, HE.out⟩)
              go_wp2_with fail
              refine (pack_any sn mo cn _ (HF.out.sums (by decide))).mono ?_
              rintro e w' ⟨rfl, rfl⟩
              go_wp2
              simp only [Exit.noGoto_ret]
              go_ret
              exact ⟨⟨_, _, _, HF.out, rfl⟩, rfl⟩
end Go.Proofs.YtkocngnpkfnblaaDoor
