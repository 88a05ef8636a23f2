/- seats: P D. The walks of Merge. -/
import Derived.Test.YtkocngnpkfnblaaWZ
namespace Go.Proofs.Ytkocngnpkfnblaa
open Go.RowKit

set_option maxRecDepth 100000 in
set_option maxHeartbeats 1600000 in
theorem pub_Merge (u : Nat → Bool) (K lg n : Nat) (s m e : Nat → Nat) (hK : K = 2 ^ lg) (hlg : lg < 21) (hn : 1 ≤ n) (hnK : n * K < 2097152) (hp : Parts u K n s m e) (B : Nat) (v : Value) (w : World) (hB : B ≤ w.heap.size) (hr : Read3 w B v n s m e) :
    Calls Try.prog 46 #[v, .int .u64 (lg : Int)] w (RetSum w (IsSum u (n * K))) := by
  obtain ⟨i0, hi, hz0, hz1, hz2⟩ := info_parts info_pks
  have HR := Lib.hid hr
  have HP := Lib.hid hp
  have hKpos : 1 ≤ K := by rw [hK]; exact Nat.one_le_two_pow
  have hKn : K ≤ n * K := Nat.le_mul_of_pos_left K hn
  have hnn : n ≤ n * K := Nat.le_mul_of_pos_right n hKpos
  have HS : Hid (∀ i, i < n → Sums (s i) (m i) (e i)) := fun i hi => (hp i hi).sums' (by omega)
  have HK := Lib.hid hK
  clear hp hK
  obtain ⟨g, cap, rfl, hg, h1, h2, h3⟩ := hr
  unfold maxLen at h2
  clear h3
  go_enter Try.func46, Try.ntmps46
  go_wp2
  generalize hW1 : w.alloc _ = W1
  have hz : Cells3 W1 w.heap.size 63 0 0 0 := by rw [← hW1]; exact Cells3.zero w _ _ rfl
  have hbel : Below w.heap.size w W1 := by rw [← hW1]; exact (Below.refl _ _).alloc (Nat.le_refl _) _
  have hW1s : W1.heap.size = w.heap.size + 1 := by rw [← hW1]; simp
  have HR1 := Lib.hid (HR.out.below (hbel.mono hB))
  have HZ := Lib.hid hz
  have HBL := Lib.hid hbel
  have HSZ := Lib.hid hW1s
  have hB1 : B ≤ W1.heap.size := by omega
  clear hW1 hz hbel HR hW1s
  go_loopw [5, 10] (fun v i wr => ∃ k : Nat, k ≤ n ∧ i = .int .i64 k ∧ wr.ownsRow W1.heap.size 75 1 v k (pks s m e k) ∧ Below W1.heap.size W1 wr) (fun _ i _ => n - (intOf i).toNat)
  case atStart => exact ⟨0, Nat.zero_le _, rfl, World.ownsRow_nil _ _ _ _, Below.refl _ _⟩
  case round =>
    obtain ⟨k, hk, rfl, hown, hb⟩ := hrel
    have hs := hb.size
    have HO := Lib.hid hown
    have HB := Lib.hid hb
    clear hown hb
    by_cases hlt : k < n
    · obtain ⟨g', cap', hv, hg', _, _, h3⟩ := HR1.out.below (HB.out.mono (by omega))
      obtain ⟨c0, c1, c2⟩ := h3 k hlt
      cases hv
      clear h3
      go_wp2_with fail
      refine (pack_any (s k) (m k) (e k) _ (HS.out k hlt)).mono ?_
      rintro en w2 ⟨rfl, rfl⟩
      obtain ⟨pn, hpn⟩ : ∃ pn, packN (s k) (m k) (e k) = pn := ⟨_, rfl⟩
      rw [hpn]
      have HPN := Lib.hid hpn
      clear hpn
      go_wp2_with (at_builtin; refine wpList_append_own _ rfl _ _ 79 rfl W1.heap.size 75 i0 (.int .u64 0) 1 8 Try.underlying79 hi hz0 hz1 hz2 rfl (by decide) _ _ _ rfl ((HO.out.alloc _).alloc _) ⟨wr.heap.size + 1, 0, none⟩ 1 1 [.int .u64 (pn : Nat)] rfl rfl ?c1 ?c2 ?c3 ?c4 ?c5 ?_)
      case c1 =>
        have := cell_one_new (wr.alloc (.cells #[.int .u64 (s k : Int), .int .u64 (m k : Int), .int .u64 (e k : Int)] 63)) (.int .u64 (pn : Nat)) 75
        simpa using this
      case c2 => intro u hu; simp at hu; subst hu; rfl
      case c3 => unfold maxLen; omega
      case c4 => omega
      case c5 => simp; omega
      intro v' w1 hown' hgrow _
      have HO3 := Lib.hid hown'
      have HG := Lib.hid hgrow
      clear hown' hgrow
      go_wp2
      go_roundw
      case rel =>
        refine ⟨k + 1, by omega, by go_num, ?_, ?_⟩
        · rw [pks_succ, HPN.out]; exact HO3.out
        · exact ((HB.out.alloc (by omega) _).alloc (by simp; omega) _).grown HG.out (by simp; omega) fun q hq => (HO.out.lt q hq).1
      case measure => simp [intOf]; omega
    · obtain rfl : n = k := by omega
      have ho := HO.out
      obtain ⟨_, h2⟩ := ho
      rcases h2 with ⟨_, h0⟩ | ⟨g2, cap2, cur, rfl, hg1, hg2, hc2, hm2, hs2, ht2⟩
      · omega
      · have hcell : ∀ i, i < n → wr.cell? ⟨g2, i, none⟩ = some (.int .u64 (packN (s i) (m i) (e i) : Nat)) := fun i hi => by
          rw [cell_of_row _ _ _ _ _ _ hg2, ← pks_get s m e hi, ← ht2, List.getElem?_take]
          simp [hi]
        clear hg2 ht2 hs2
        go_wp2_with fail
        refine (merge_any u K lg n s m e HK.out hlg hn hnK HP.out g2 cap2 _ ⟨hc2, hm2⟩ hcell).mono ?_
        rintro en w2 ⟨⟨a, b, c, hQ, rfl⟩, rfl⟩
        have HQ := Lib.hid hQ
        clear hQ hcell
        generalize hp : packN a b c = p
        have HPC := Lib.hid hp
        clear hp
        go_wp2_with fail
        rw [← HPC.out]
        refine (unpackSum_any a b c _ (HQ.out.sums' hnK)).mono ?_
        rintro en w3 ⟨rfl, hb3⟩
        have hz := (HZ.out.below HB.out HZ.out.lt).below hb3 (by have := HZ.out.lt; omega)
        have hbel : Below w.heap.size w w3 := (HBL.out.trans (HB.out.mono HBL.out.size)).trans (hb3.mono (by have := HBL.out.size; omega))
        obtain ⟨f0, f1, f2, z0, z1, z2⟩ := hz.facts
        clear hb3
        go_wp2
        exact bodyPost_ret (results_cell_row rfl _ _ w.heap.size 63 _ (0, 0) _ rfl (hz.fill a b c) Try.underlying63 rfl (by kernel_rfl)) rfl ⟨a, b, c, HQ.out, rfl, below_fill3 hbel (Nat.le_refl _) a b c⟩

theorem cells3_at {w : World} {g : Nat} {t : TypeId} {x y z : Nat} (h : Cells3 w g t x y z) :
    ∀ (j : Nat) (u : Value), ([.int .u64 (x : Int), .int .u64 (y : Int), .int .u64 (z : Int)] : List Value)[j]? = some u → w.cell? (Addr.add ⟨g, 0, none⟩ j) = some u := by
  obtain ⟨f0, f1, f2, _⟩ := h.facts
  intro j u hj
  match j, hj with
  | 0, hj => simp at hj; subst hj; exact f0
  | 1, hj => simp at hj; subst hj; exact f1
  | 2, hj => simp at hj; subst hj; exact f2

set_option maxRecDepth 100000 in
set_option maxHeartbeats 1600000 in
theorem impl_Merge (u : Nat → Bool) (K lg n : Nat) (s m e : Nat → Nat) (hK : K = 2 ^ lg) (hlg : lg < 21) (hn : 1 ≤ n) (hnK : n * K < 2097152) (hp : Parts u K n s m e) (B : Nat) (v : Value) (w : World) (hB : B ≤ w.heap.size) (hr : Read3 w B v n s m e) :
    Calls Try.prog 33 #[v, .int .u64 (lg : Int)] w (RetSum w (IsSum u (n * K))) := by
  obtain ⟨i0, hi, hz0, hz1, hz2⟩ := info_parts info_sum
  have HR := Lib.hid hr
  have HP := Lib.hid hp
  have hKpos : 1 ≤ K := by rw [hK]; exact Nat.one_le_two_pow
  have hKn : K ≤ n * K := Nat.le_mul_of_pos_left K hn
  have hnn : n ≤ n * K := Nat.le_mul_of_pos_right n hKpos
  have HK := Lib.hid hK
  clear hp hK
  obtain ⟨g, cap, rfl, hg, h1, h2, h3⟩ := hr
  unfold maxLen at h2
  clear h3
  go_enter Try.func33, Try.ntmps33
  go_wp2
  generalize hW1 : w.alloc _ = W1
  have hz : Cells3 W1 w.heap.size 44 0 0 0 := by rw [← hW1]; exact Cells3.zero w _ _ rfl
  have hbel : Below w.heap.size w W1 := by rw [← hW1]; exact (Below.refl _ _).alloc (Nat.le_refl _) _
  have hW1s : W1.heap.size = w.heap.size + 1 := by rw [← hW1]; simp
  have HR1 := Lib.hid (HR.out.below (hbel.mono hB))
  have HZ := Lib.hid hz
  have HBL := Lib.hid hbel
  have HSZ := Lib.hid hW1s
  have hB1 : B ≤ W1.heap.size := by omega
  clear hW1 hz hbel HR hW1s
  go_loopw [5, 10] (fun v i wr => ∃ k : Nat, k ≤ n ∧ i = .int .i64 k ∧ wr.ownsRow W1.heap.size 63 3 v k (trip s m e k) ∧ Below W1.heap.size W1 wr) (fun _ i _ => n - (intOf i).toNat)
  case atStart => exact ⟨0, Nat.zero_le _, rfl, World.ownsRow_nil _ _ _ _, Below.refl _ _⟩
  case round =>
    obtain ⟨k, hk, rfl, hown, hb⟩ := hrel
    have hs := hb.size
    have HO := Lib.hid hown
    have HB := Lib.hid hb
    clear hown hb
    by_cases hlt : k < n
    · obtain ⟨g', cap', hv, hg', _, _, h3⟩ := HR1.out.below (HB.out.mono (by omega))
      obtain ⟨c0, c1, c2⟩ := h3 k hlt
      cases hv
      clear h3
      go_wp2_with (at_builtin; refine wpList_append_own _ rfl _ _ 66 rfl W1.heap.size 63 i0 (.agg #[.int .u64 0, .int .u64 0, .int .u64 0]) 3 24 Try.underlying66 hi hz0 hz1 hz2 rfl (by decide) _ _ _ rfl ((HO.out.alloc _).alloc _) ⟨wr.heap.size + 1, 0, none⟩ 1 1 [.int .u64 (s k : Int), .int .u64 (m k : Int), .int .u64 (e k : Int)] rfl rfl ?c1 ?c2 ?c3 ?c4 ?c5 ?_)
      case c1 => exact cells3_at (Cells3.new' _ _ _ _ _ _ (by simp))
      case c2 => intro u hu; simp at hu; rcases hu with rfl | rfl | rfl <;> rfl
      case c3 => unfold maxLen; omega
      case c4 => omega
      case c5 => simp; omega
      intro v' w1 hown' hgrow _
      have HO3 := Lib.hid hown'
      have HG := Lib.hid hgrow
      clear hown' hgrow
      go_wp2
      go_roundw
      case rel =>
        refine ⟨k + 1, by omega, by go_num, HO3.out, ?_⟩
        exact ((HB.out.alloc (by omega) _).alloc (by simp; omega) _).grown HG.out (by simp; omega) fun q hq => (HO.out.lt q hq).1
      case measure => simp [intOf]; omega
    · obtain rfl : n = k := by omega
      have HRD := Lib.hid (read3_own hn HO.out)
      go_wp2_with fail
      refine (pub_Merge u K lg n s m e HK.out hlg hn hnK HP.out _ _ _ (Nat.le_refl _) HRD.out).mono ?_
      rintro en w3 ⟨a, b, c, hQ, rfl, hb3⟩
      have HQ := Lib.hid hQ
      have hz := (HZ.out.below HB.out HZ.out.lt).below hb3 (by have := HZ.out.lt; omega)
      have hbel : Below w.heap.size w w3 := (HBL.out.trans (HB.out.mono HBL.out.size)).trans (hb3.mono (by have := HBL.out.size; omega))
      obtain ⟨f0, f1, f2, z0, z1, z2⟩ := hz.facts
      clear hb3 hQ
      go_wp2
      exact bodyPost_ret (results_cell_row rfl _ _ w.heap.size 44 _ (0, 0) _ rfl (hz.fill a b c) Try.underlying44 rfl (by kernel_rfl)) rfl ⟨a, b, c, HQ.out, rfl, below_fill3 hbel (Nat.le_refl _) a b c⟩
end Go.Proofs.Ytkocngnpkfnblaa
