/- seats: P.
  FnMergeTwice: for every slice of words (at most 1000 of them are taken), every log (mod 6) and every each (mod 4): summaries merged by parts, and these again, are those that are merged at once, and the longest run is none shorter than that of any part. No condition. (Written by gen_mt.py.)
-/
import Derived.Test.YtkocngnpkfnblaaWR4
import Derived.Deep.DeepCutAuto
namespace Go.Proofs.Ytkocngnpkfnblaa.fnMergeTwice
open Go.Proofs.Ytkocngnpkfnblaa
open Go.ChangeShapes Go.WideShapes Go.ChangeAt Go.RowKit

set_option maxRecDepth 100000 in
set_option maxHeartbeats 6400000 in
theorem walk (a : Option Addr) (len cap : Nat) (zs : List Int) (lg0 ea0 : Nat) (w : World) (hz : IsRow w a len cap zs) (hl : lg0 < 256) (he : ea0 < 256) :
    Calls Try.prog 12 #[.slice a len cap, .int .u8 (lg0 : Int), .int .u8 (ea0 : Int)] w (RetTrue w) := by
  obtain ⟨lg, hlg⟩ : ∃ lg : Nat, lg = lg0 % 6 := ⟨_, rfl⟩
  have hlg5 : lg ≤ 5 := by omega
  have elg : ((lg0 : Int) % 6) = (lg : Int) := by omega
  obtain ⟨ex, hex⟩ : ∃ ex : Nat, ex = ea0 % 4 := ⟨_, rfl⟩
  have hex3 : ex ≤ 3 := by omega
  have eex : ((ea0 : Int) % 4) = (ex : Int) := by omega
  clear hlg hex
  obtain ⟨K, hK⟩ : ∃ K, K = 2 ^ lg := ⟨_, rfl⟩
  obtain ⟨E, hE⟩ : ∃ E, E = 2 ^ ex := ⟨_, rfl⟩
  have hK2 : 1 ≤ K ∧ K ≤ 32 := by
    rw [hK]
    match lg, hlg5 with
    | 0, _ | 1, _ | 2, _ | 3, _ | 4, _ | 5, _ => exact ⟨by decide, by decide⟩
  have hE2 : 1 ≤ E ∧ E ≤ 8 := by
    rw [hE]
    match ex, hex3 with
    | 0, _ | 1, _ | 2, _ | 3, _ => exact ⟨by decide, by decide⟩
  have eE : IntKind.i64.wrap (2 ^ ex) = (E : Int) := by rw [powN, ← hE]; exact IntWalk.i64_in _ ⟨by omega, by omega⟩
  have HKE : Hid (E * K = 2 ^ (lg + ex)) := by show E * K = 2 ^ (lg + ex); rw [hK, hE, Nat.pow_add, Nat.mul_comm]
  have HK := Lib.hid hK
  clear hK hE
  obtain ⟨i0, hi, hz0, hz1, hz2⟩ := info_parts info_isum
  obtain ⟨X, hX⟩ : ∃ X, X = wordOf zs := ⟨_, rfl⟩
  obtain ⟨S, M, C, h1⟩ := allSums_exists (parts X K) K
  obtain ⟨S', M', C', h2⟩ := allSums_exists (parts X K) (E * K)
  have HS := Lib.hid h1
  have HS' := Lib.hid h2
  clear h1 h2
  rcases hz with ⟨rfl, rfl, rfl, rfl⟩ | ⟨x, rfl, h1, h2, h3, h4, h5⟩
  · go_enter Try.func12, Try.ntmps12
    go_wp2
    go_loopw [9, 10, 11] (fun vs vp i wr => i = .int .i64 0 ∧ vs = .slice none 0 0 ∧ wr = w) (fun _ _ _ _ => 0)
    case atStart => exact ⟨rfl, rfl, rfl⟩
    case round =>
      obtain ⟨rfl, rfl, rfl⟩ := hrel
      have hd : decide ((E : Int) ≤ 0) = false := by simp; omega
      go_wp2_with fail
      refine (impl_Merge_eq (fun _ => false) 1 0 1 1 1 1 (fun _ => 1) (fun _ => 1) (fun _ => 1) one_free rfl (by decide) (by decide) (by decide) (fun i _ => one_free) _ _ _ (Nat.le_refl _) (read3_one (Cells3.new' _ _ _ _ _ _ rfl))).mono ?_
      rintro e w2 ⟨rfl, hb2⟩
      have hfin := (Below.refl wr.heap.size wr).alloc (Nat.le_refl _) (.cells #[.int .u64 1, .int .u64 1, .int .u64 1] 44) |>.trans (hb2.mono (by simp))
      have HF := Lib.hid hfin
      clear hb2 hfin
      go_wp2
      go_ret
      exact ⟨rfl, HF.out⟩
  · have HXC : Hid (∀ i, i < len → X i < 4294967296 ∧ w.cell? (x.add i) = some (.int .u32 (X i : Int))) := by rw [hX]; exact IsRow.word h1 h3 h4 h5
    unfold maxLen at h2
    clear h3 h4 h5 hX
    go_enter Try.func12, Try.ntmps12
    by_cases hbig : 2147483647 < len
    · have hd : decide ((2147483647 : Int) < (len : Int)) = true := by simp; omega
      go_wp2
      go_ret
      exact ⟨rfl, Below.refl _ _⟩
    · have hd : decide ((2147483647 : Int) < (len : Int)) = false := by simp; omega
      go_upto_region 3 with fail
      go_cut [0] (fun s0 wx => ∃ m : Nat, s0 = .slice (some x) m cap ∧ m ≤ len ∧ m ≤ 1000 ∧ wx = w)
      case first =>
        by_cases h1000 : 1000 < len
        · have hm : decide ((1000 : Int) < (len : Int)) = true := by simp; omega
          go_wp2
          go_meet
          case rel => exact ⟨1000, rfl, by omega, by omega, rfl⟩
        · have hm : decide ((1000 : Int) < (len : Int)) = false := by simp; omega
          go_wp2
          go_meet
          case rel => exact ⟨len, rfl, by omega, by omega, rfl⟩
      case rest =>
        obtain ⟨m, rfl, hml, hm1, rfl⟩ := hcut
        go_wp2
        simp only [elg, eex]
        go_loopw [9, 10, 11] (fun vs vp i wr => ∃ j p : Nat, p = j * E ∧ p ≤ m ∧ i = .int .i64 p ∧ wr.ownsRow wc.heap.size 44 3 vs p (trip S M C p) ∧ wr.ownsRow wc.heap.size 44 3 vp j (trip S' M' C' j) ∧ Apart vs vp ∧ (j = 0 → vs = .slice none 0 0) ∧ Below wc.heap.size wc wr) (fun _ _ i _ => m - (intOf i).toNat)
        case atStart => exact ⟨0, 0, by omega, by omega, rfl, World.ownsRow_nil _ _ _ _, World.ownsRow_nil _ _ _ _, Apart.nil, fun _ => rfl, Below.refl _ _⟩
        case round =>
          obtain ⟨j, p, hp, hpm, rfl, hos, hop, hap, hnil, hb⟩ := hrel
          obtain ⟨wo, rfl⟩ : ∃ wo : World, wo = wr := ⟨_, rfl⟩
          have hjp : j ≤ p := by rw [hp]; exact Nat.le_mul_of_pos_right _ (by omega)
          have hwr := hb.size
          have HOS := Lib.hid hos
          have HOP := Lib.hid hop
          have HAP := Lib.hid hap
          have HNIL := Lib.hid hnil
          have HBW := Lib.hid hb
          have HP := Lib.hid hp
          clear hos hop hap hnil hb hp
          by_cases hlt : p + E ≤ m
          · have hd39 : decide ((p : Int) + (E : Int) ≤ (m : Int)) = true := by simp; omega
            go_wp2
            simp only [Nat.add_sub_cancel_left]
            go_loopw [12, 52] (fun vq i2 w2 => ∃ t : Nat, t ≤ E ∧ i2 = .int .i64 t ∧ w2.ownsRow wo.heap.size 44 3 vq t (trip (fun i => S (p + i)) (fun i => M (p + i)) (fun i => C (p + i)) t) ∧ Below wo.heap.size wo w2) (fun _ i2 _ => E - (intOf i2).toNat)
            case atStart => exact ⟨0, by omega, rfl, World.ownsRow_nil _ _ _ _, Below.refl _ _⟩
            case round =>
              obtain ⟨t, ht, rfl, hoq, hb2⟩ := hrel
              have HOQ := Lib.hid hoq
              have HB2 := Lib.hid hb2
              have hw2 := hb2.size
              clear hoq hb2
              by_cases hlt2 : t < E
              · obtain ⟨hx1, hx2⟩ := HXC.out (p + t) (by omega)
                have hx3 := block_lt_of_cell hx2
                have hx4 := (HB2.out.cell (p := x.add (p + t)) (Nat.lt_of_lt_of_le hx3 hwr)).trans ((HBW.out.cell (p := x.add (p + t)) hx3).trans hx2)
                rw [← add_add] at hx4
                clear hx2 hx3
                obtain ⟨xk, hxk⟩ : ∃ xk, X (p + t) = xk := ⟨_, rfl⟩
                rw [hxk] at hx1 hx4
                have HPP : Hid (pg (fun _ => xk) K = upg (fun j => parts X K ((p + t) * K + j)) K) := by
                  have := parts_pg X (K := K) (i := p + t) (by omega) (by omega)
                  rw [hxk] at this
                  exact this
                clear hxk
                have hnk : upg (fun j => parts X K ((p + t) * K + j)) K ≠ [] := fun h => by have := upg_length (fun j => parts X K ((p + t) * K + j)) K; rw [h] at this; simp at this; omega
                go_wp2_with fail
                refine (block_any xk lg K hx1 hlg5 HK.out _).mono ?_
                rintro e w5 ⟨vb, rfl, hl5, hb5⟩
                rw [HPP.out] at hl5
                have HL5 := Lib.hid hl5
                have HB5 := Lib.hid hb5
                clear hl5 hb5 hx4
                go_wp2_with fail
                refine (summary_upg _ _ _ K _ _ _ _ (Nat.le_refl _) (by omega) (HL5.out.reads hnk) (HS.out (p + t))).mono ?_
                rintro e w6 ⟨rfl, hb6⟩
                have HB6 := Lib.hid hb6
                have HBB := Lib.hid (HB2.out.trans ((HB5.out.trans (hb6.mono HB5.out.size)).mono hw2))
                have hs6 := HBB.out.size
                clear hb6
                have HO6 := Lib.hid (owns_later (owns_later HOQ.out HB5.out) HB6.out)
                go_wp2_with (at_builtin; refine wpList_append_own _ rfl _ _ 51 rfl wo.heap.size 44 i0 (.agg #[.int .u64 0, .int .u64 0, .int .u64 0]) 3 24 Try.underlying51 hi hz0 hz1 hz2 rfl (by decide) _ _ _ rfl (HO6.out.alloc _) ⟨w6.heap.size, 0, none⟩ 1 1 [.int .u64 (S (p + t) : Int), .int .u64 (M (p + t) : Int), .int .u64 (C (p + t) : Int)] rfl rfl ?c1 ?c2 ?c3 ?c4 ?c5 ?_)
                case c1 => exact cells3_at (Cells3.new' _ _ _ _ _ _ rfl)
                case c2 => intro u hu; simp at hu; rcases hu with rfl | rfl | rfl <;> rfl
                case c3 => unfold maxLen; omega
                case c4 => omega
                case c5 => simp; omega
                intro vq7 w7 hown7 hgrow7 _
                have HO7 := Lib.hid hown7
                have HB7 := Lib.hid ((HBB.out.alloc hs6 _).grown hgrow7 (by simp; omega) fun q hq => (HO6.out.lt q hq).1)
                clear hown7 hgrow7
                go_wp2
                go_roundw
                case rel => exact ⟨t + 1, by omega, by go_num, HO7.out, HB7.out⟩
                case measure => simp [intOf]; omega
              · obtain rfl : E = t := by omega
                have hoq2 := HOQ.out
                obtain ⟨gq, capq, rfl, hgq, hgq2⟩ := hoq2.form (by omega)
                have HOS1 := Lib.hid (owns_later HOS.out HB2.out)
                have HOP1 := Lib.hid (owns_later HOP.out HB2.out)
                have HSQ := Lib.hid (apart_newer HOS.out HOQ.out (Nat.le_refl _))
                clear hoq2
                go_wp2_with (at_builtin; refine wpList_append_own_at _ rfl _ _ 51 rfl wc.heap.size 44 i0 (.agg #[.int .u64 0, .int .u64 0, .int .u64 0]) 3 24 Try.underlying51 hi hz0 hz1 hz2 rfl (by decide) _ p _ rfl HOS1.out ⟨gq, 0, none⟩ E capq (trip (fun i => S (p + i)) (fun i => M (p + i)) (fun i => C (p + i)) E) rfl ?a1 ?a2 ?a3 ?a4 ?a5 ?a6 ?_)
                case a1 => exact trip_length _ _ _ _
                case a2 => exact news_own HOQ.out
                case a3 => exact trip_cells _ _ _ _
                case a4 => unfold maxLen; omega
                case a5 => omega
                case a6 => omega
                intro vs2 w7 hown7 hgrow7 _ hat7
                rw [← trip_add] at hown7
                have HOS7 := Lib.hid hown7
                have HOP7 := Lib.hid (owns_apart HOP1.out HAP.out.symm hgrow7)
                have HOQ7 := Lib.hid (owns_apart HOQ.out HSQ.out.symm hgrow7)
                have HAP7 := Lib.hid (apart_append HAP.out HOP1.out (Nat.le_refl _) hat7)
                have hs7 := hgrow7.size
                have HB7 := Lib.hid ((HBW.out.trans (HB2.out.mono hwr)).grown hgrow7 (by omega) fun q hq => (World.ownsRow.lt HOS1.out q hq).1)
                have HRQ := Lib.hid (read3_own (by omega) HOQ7.out)
                have HPJ : Hid (Parts (fun k => parts X K (j * (E * K) + k)) K E (fun i => S (p + i)) (fun i => M (p + i)) (fun i => C (p + i))) := fun i _ => by
                  have := HS.out.inner (E := E) j i
                  rw [← HP.out] at this
                  exact this
                have hEK : E * K ≤ 8 * 32 := Nat.mul_le_mul hE2.2 hK2.2
                clear hown7 hgrow7 hat7
                go_wp2_with fail
                refine (impl_Merge_eq (fun k => parts X K (j * (E * K) + k)) K lg E (S' j) (M' j) (C' j) _ _ _ (HS'.out j) HK.out (by omega) (by omega) (by omega) HPJ.out _ _ _ (Nat.le_refl _) HRQ.out).mono ?_
                rintro e w8 ⟨rfl, hb8⟩
                have HOS8 := Lib.hid (owns_later HOS7.out hb8)
                have HOP8 := Lib.hid (owns_later HOP7.out hb8)
                have HB8 := Lib.hid (HB7.out.trans (hb8.mono HB7.out.size))
                have hs8 := HB8.out.size
                clear hb8
                go_wp2_with (at_builtin; refine wpList_append_own_at _ rfl _ _ 51 rfl wc.heap.size 44 i0 (.agg #[.int .u64 0, .int .u64 0, .int .u64 0]) 3 24 Try.underlying51 hi hz0 hz1 hz2 rfl (by decide) _ j _ rfl (HOP8.out.alloc _) ⟨w8.heap.size, 0, none⟩ 1 1 [.int .u64 (S' j : Int), .int .u64 (M' j : Int), .int .u64 (C' j : Int)] rfl rfl ?b1 ?b2 ?b3 ?b4 ?b5 ?_)
                case b1 => exact cells3_at (Cells3.new' _ _ _ _ _ _ rfl)
                case b2 => intro u hu; simp at hu; rcases hu with rfl | rfl | rfl <;> rfl
                case b3 => unfold maxLen; omega
                case b4 => omega
                case b5 => simp; omega
                intro vp2 w9 hown9 hgrow9 _ hat9
                have HOP9 := Lib.hid hown9
                have HOS9 := Lib.hid (owns_apart (HOS8.out.alloc _) HAP7.out hgrow9)
                have HAP9 := Lib.hid (apart_append (H := w8.heap.size + 1) HAP7.out.symm (HOS8.out.alloc (.cells #[.int .u64 (S' j : Int), .int .u64 (M' j : Int), .int .u64 (C' j : Int)] 44)) (by simp) hat9).symm
                have HB9 := Lib.hid ((HB8.out.alloc hs8 _).grown hgrow9 (by simp; omega) fun q hq => (World.ownsRow.lt HOP8.out q hq).1)
                have hp2 : p + E = (j + 1) * E := by rw [Nat.succ_mul, HP.out]
                have HP2 := Lib.hid hp2
                clear hown9 hgrow9 hat9 hp2
                go_wp2
                go_roundw
                case rel => exact ⟨j + 1, p + E, HP2.out, by omega, by go_num, HOS9.out, HOP9.out, HAP9.out, fun h => by omega, HB9.out⟩
                case measure => simp [intOf]; omega
          · by_cases hj0 : j = 0
            · obtain rfl := HNIL.out hj0
              have hp0 : p = 0 := by rw [HP.out, hj0, Nat.zero_mul]
              subst hp0
              go_wp2_with fail
              refine (impl_Merge_eq (fun _ => false) 1 0 1 1 1 1 (fun _ => 1) (fun _ => 1) (fun _ => 1) one_free rfl (by decide) (by decide) (by decide) (fun i _ => one_free) _ _ _ (Nat.le_refl _) (read3_one (Cells3.new' _ _ _ _ _ _ rfl))).mono ?_
              rintro e w2 ⟨rfl, hb2⟩
              have hfin := ((HBW.out.alloc hwr (.cells #[.int .u64 1, .int .u64 1, .int .u64 1] 44)).trans (hb2.mono (by simp; omega)))
              have HF := Lib.hid hfin
              clear hb2 hfin
              go_wp2
              go_ret
              exact ⟨rfl, HF.out⟩
            · have hp1 : 1 ≤ p := by omega
              have hos2 := HOS.out
              obtain ⟨gs, caps, rfl, hgs, hgs2⟩ := hos2.form (by omega)
              have HRS := Lib.hid (read3_own hp1 hos2)
              have HRP := Lib.hid (read3_own (by omega) HOP.out)
              clear hos2
              obtain ⟨⟨A, B, D⟩, hu⟩ := sum_exists (parts X K) (p * K)
              have HU : Hid (IsSum (parts X K) (p * K) A B D) := hu
              have HMO : Hid (mostOf M p ≤ B) := HS.out.most_le hu p (Nat.le_refl _)
              have HU2 : Hid (IsSum (parts X K) (j * (E * K)) A B D) := by
                have h := hu
                have e : p * K = j * (E * K) := by rw [HP.out, Nat.mul_assoc]
                rw [e] at h
                exact h
              have hBle : A ≤ p * K ∧ B ≤ p * K ∧ D ≤ p * K := IsSum.le' hu
              have hpK : p * K ≤ 1000 * 32 := Nat.mul_le_mul (by omega) hK2.2
              have hjK : j * (E * K) ≤ 1000 * 32 := by
                have e : p * K = j * (E * K) := by rw [HP.out, Nat.mul_assoc]
                omega
              obtain ⟨le, hle⟩ : ∃ le : Nat, le = lg + ex := ⟨_, rfl⟩
              have ele : (lg : Int) + (ex : Int) = (le : Int) := by omega
              have hle8 : le ≤ 8 := by omega
              have elw : IntKind.u64.wrap (le : Int) = (le : Int) := IntWalk.u64_in _ (by omega)
              have HKE2 : Hid (E * K = 2 ^ le) := by rw [hle]; exact HKE.out
              clear hu hle
              have hp75 : ((p : Int) == 0) = false := by simp; omega
              go_wp2
              try simp only [elg, eex, hp75]
              go_loopw [15, 83] (fun mo i3 w3 => ∃ t : Nat, t ≤ p ∧ i3 = .int .i64 t ∧ mo = .int .u64 (mostOf M t : Nat) ∧ Below wo.heap.size wo w3) (fun _ i3 _ => p - (intOf i3).toNat)
              case atStart => exact ⟨0, Nat.zero_le _, rfl, rfl, Below.refl _ _⟩
              case round =>
                obtain ⟨t, ht, rfl, rfl, hb3⟩ := hrel
                have hw3 := hb3.size
                have HB3 := Lib.hid hb3
                have hmt := mostOf_le HS.out t
                clear hb3
                by_cases hlt3 : t < p
                · obtain ⟨g', cap', hv, hg', _, _, hcs⟩ := HRS.out.below HB3.out
                  obtain ⟨c0, c1, c2⟩ := hcs t hlt3
                  cases hv
                  clear hcs
                  have hms : mostOf M (t + 1) = max (mostOf M t) (M t) := rfl
                  have hMt : M t ≤ K := (IsSum.le' (HS.out t)).2.1
                  obtain ⟨mt, hmt2⟩ : ∃ mt, mostOf M t = mt := ⟨_, rfl⟩
                  obtain ⟨mv, hmv⟩ : ∃ mv, M t = mv := ⟨_, rfl⟩
                  rw [hmt2] at hms hmt ⊢
                  rw [hmv] at hms hMt c1
                  have HMS := Lib.hid hms
                  clear hms hmt2 hmv
                  have hmx : max (mt : Int) (mv : Int) = ((max mt mv : Nat) : Int) := by omega
                  go_wp2
                  all_goals go_roundw
                  all_goals first
                  | exact ⟨t + 1, by omega, by go_num, by rw [HMS.out]; first | rfl | (congr 1; omega), HB3.out.alloc hw3 _⟩
                  | (simp [intOf]; omega)
                · obtain rfl : p = t := by omega
                  obtain ⟨mt, hmt2⟩ : ∃ mt, mostOf M p = mt := ⟨_, rfl⟩
                  have hmo := HMO.out
                  rw [hmt2] at hmo hmt ⊢
                  have HRS3 := Lib.hid (HRS.out.below HB3.out)
                  clear hmt2
                  go_wp2_with fail
                  refine (impl_Merge_eq (parts X K) K lg p A B D S M C HU.out HK.out (by omega) hp1 (by omega) (fun i _ => HS.out i) _ _ _ hw3 HRS3.out).mono ?_
                  rintro e w4 ⟨rfl, hb4⟩
                  have HB4 := Lib.hid (HB3.out.trans (hb4.mono hw3))
                  clear hb4
                  go_upto_region 26 with fail
                  generalize hW5 : w4.alloc _ = W5
                  have hd5 : Cells3 W5 w4.heap.size 44 A B D := by rw [← hW5]; exact Cells3.new' _ _ _ _ _ _ rfl
                  have hb5 : Below wo.heap.size wo W5 := by rw [← hW5]; exact HB4.out.alloc HB4.out.size _
                  have hdm : decide ((mt : Int) ≤ (B : Int)) = true := by simp; omega
                  clear hW5
                  have HD5 := Lib.hid hd5
                  have HB5 := Lib.hid hb5
                  have HRP5 := Lib.hid (HRP.out.below hb5)
                  have hw5 := hb5.size
                  clear hd5 hb5
                  go_region_held3 (fun w' => ((w'.cell? ⟨w4.heap.size, 0, none⟩ = some (.int .u64 (A : Int)) ∧ w'.cell? ⟨w4.heap.size, 1, none⟩ = some (.int .u64 (B : Int)) ∧ w'.cell? ⟨w4.heap.size, 2, none⟩ = some (.int .u64 (D : Int)) ∧ Below (w4.heap.size + 1) W5 w' ∧ w4.heap.size < w'.heap.size)) ∧ Below W5.heap.size W5 w')
                    (first | with_reducible assumption | with_reducible exact ⟨first3 HD5.out, (Below.refl _ _).drew⟩ | with_reducible exact keepN (by with_reducible assumption) (by with_reducible assumption))
                    (first
                     | (go_at_call 33; refine (impl_Merge_eq (parts X K) (E * K) le j A B D S' M' C' HU2.out HKE2.out (by omega) (by omega) (by omega) (fun i _ => HS'.out i) wo.heap.size _ _ (Nat.le_trans hw5 (Below.size (And.right (by with_reducible assumption)))) (HRP5.out.below (Below.mono (B := W5.heap.size) (And.right (by with_reducible assumption)) hw5))).mono ?_; rintro e w6 ⟨rfl, hb6⟩))
                  rename_i hS
                  have hfin : Below wc.heap.size wc w6 := (HBW.out.trans (HB5.out.mono hwr)).trans (hS.2.mono (by omega))
                  have HF := Lib.hid hfin
                  clear hS hb6 hfin
                  go_wp2
                  go_ret
                  exact ⟨rfl, HF.out⟩

set_option maxRecDepth 100000 in
theorem lifted (os : Os) (started : os.Started) (H : Type) (enc : TypeId × Value → H) :
    ReturnsInHanded {} Try.checked os 12 .any (Rows.fnMergeTwiceSpec.pre6 enc Try.prog Try.f12 Rows.fnMergeTwiceRow.domain false) (Rows.fnMergeTwiceSpec.post enc Try.prog Try.f12 false true false false) := by
  refine returnsInHanded_of_change (C := Try.checked) own started (by kernel_rfl) Try.func12
    (ChangeSpec.witness6 (enc := enc) (C := Try.checked) false ⟨#[], #[.slice none 0 0, .int .u8 0, .int .u8 0], []⟩ 8 (by kernel_rfl) (by kernel_rfl) (by kernel_rfl) (by kernel_rfl)) ?_
  intro W base args ds gs before hval0 hW hcnd _
  have hval : ∀ (j : Nat) t v, Try.f12.params[j]? = some t → args[j]? = some v → Value.okWide Try.prog W .any base t v := hval0
  have hW' := hW
  obtain ⟨p, q, hA0, hV, rfl, hfz, hnd⟩ := hW
  have hA : DataW.TrodAll enc Try.prog W 0 (fun _ => true) true Try.f12.params.toList args.toList ds p := hA0
  rw [Try.params12] at hA hval
  obtain ⟨v0, vs0, d0, ds0, p0, q0, hargs, rfl, rfl, h0, r0⟩ := trodAll_cons hA
  obtain ⟨v1, vs1, d1, ds1, p1, q1, rfl, rfl, rfl, h1, r1⟩ := trodAll_cons r0
  obtain ⟨v2, vs2, d2, ds2, p2, q2, rfl, rfl, rfl, h2, r2⟩ := trodAll_cons r1
  obtain ⟨rfl, rfl, rfl⟩ := trodAll_nil r2
  obtain rfl : args = #[v0, v1, v2] := by cases args; simp_all
  obtain ⟨rfl, rfl⟩ := trodVars_none hV
  have k0 := h0
  have lt0 : ∀ x ∈ p0, x.block < W.heap.size := by obtain ⟨m, hm⟩ := k0; exact DataW.trod_lt m _ _ _ hm
  obtain ⟨a0, len0, cap0, rfl⟩ := okWide_slice Try.underlying48 (hval 0 48 v0 rfl rfl)
  obtain ⟨z0, w0⟩ : ∃ zs, IsRow W a0 len0 cap0 zs := by
    obtain ⟨fuel, hf⟩ := h0
    rcases open_ints Try.underlying48 Try.underlying42 (by kernel_rfl) hf with ⟨hcs, _⟩ | ⟨x, l, c, zs, hcs, _, hl, hm, hz, _, hcell, hwz⟩
    · simp [Value.cells] at hcs
      obtain ⟨rfl, rfl, rfl⟩ := hcs
      exact ⟨[], .inl ⟨rfl, rfl, rfl, rfl⟩⟩
    · simp [Value.cells] at hcs
      obtain ⟨rfl, rfl, rfl⟩ := hcs
      exact ⟨zs, .inr ⟨_, rfl, hl, hm, by simpa using hz, hcell, hwz⟩⟩
  have k1 := h1
  have lt1 : ∀ x ∈ p1, x.block < W.heap.size := by obtain ⟨m, hm⟩ := k1; exact DataW.trod_lt m _ _ _ hm
  obtain ⟨n1, rfl, rfl, rfl, f1⟩ := open_int Try.underlying5 (hval 1 5 v1 rfl rfl) h1
  have b1 := bounds_u8 f1
  obtain ⟨a1, rfl⟩ := Int.eq_ofNat_of_zero_le b1.1
  have w1 : a1 < 256 := by omega
  have k2 := h2
  have lt2 : ∀ x ∈ p2, x.block < W.heap.size := by obtain ⟨m, hm⟩ := k2; exact DataW.trod_lt m _ _ _ hm
  obtain ⟨n2, rfl, rfl, rfl, f2⟩ := open_int Try.underlying5 (hval 2 5 v2 rfl rfl) h2
  have b2 := bounds_u8 f2
  obtain ⟨a2, rfl⟩ := Int.eq_ofNat_of_zero_le b2.1
  have w2 : a2 < 256 := by omega
  clear hA0 hval0
  refine (walk a0 len0 cap0 z0 a1 a2 W w0 w1 w2).mono fun e W' ⟨he, bel⟩ => ?_
  subst he
  exact ⟨_, rfl, _, _, _, [], _, [], hW', trodAll_mk1 (shut_bool Try.underlying4 _), (trodAll_cons_mk (Below.trod laidOut (by kernel_rfl) (of_decide_eq_true (by kernel_rfl)) k0 bel lt0) (trodAll_cons_mk (Below.trod laidOut (by kernel_rfl) (of_decide_eq_true (by kernel_rfl)) k1 bel lt1) (trodAll_cons_mk (Below.trod laidOut (by kernel_rfl) (of_decide_eq_true (by kernel_rfl)) k2 bel lt2) trodAll_mk0))), rfl, bel.frame _, fun h => by cases h⟩

theorem over : Rows.fnMergeTwiceRow.holds Try.pinned (OpenSpec.ofChange Rows.fnMergeTwiceSpec) :=
  OpenClaim.holds_of_wide 12 Try.f12 rfl rfl rfl rfl rfl rfl rfl ⟨rfl, rfl, rfl, rfl, rfl⟩ rfl rfl rfl rfl rfl (by kernel_rfl) Try.func12 (by kernel_rfl)
    (of_decide_eq_true (by kernel_rfl)) (by unfold Func.isWrapper; first | (rw [if_pos (by decide +kernel)]; kernel_rfl) | (rw [if_neg (by decide +kernel)]; exact ⟨rfl, rfl⟩))
    (fun os started H enc _ => lifted os started H enc)

theorem proved : Rows.FnMergeTwiceSaid := over
#print axioms proved
end Go.Proofs.Ytkocngnpkfnblaa.fnMergeTwice
