/- seats: P.
  FnExactMerge: for every slice of words (at most 1000 of them are taken), every first word and every log (log mod 6): the merged summaries of the parts are the summary of all pages. No condition. (Written by gen_lmerge.py.)
-/
import Derived.Test.YtkocngnpkfnblaaWR3
namespace Go.Proofs.Ytkocngnpkfnblaa.fnExactMerge
open Go.Proofs.Ytkocngnpkfnblaa
open Go.ChangeShapes Go.WideShapes Go.ChangeAt Go.RowKit

/-- the words, the first one ahead -/
def allW (first : Nat) (zs : List Int) (i : Nat) : Nat := if i = 0 then first else wordOf zs (i - 1)
theorem allW_zero (first : Nat) (zs : List Int) : allW first zs 0 = first := rfl
theorem allW_succ (first : Nat) (zs : List Int) (i : Nat) : allW first zs (i + 1) = wordOf zs i := by unfold allW; rw [if_neg (by omega)]; rfl

set_option maxRecDepth 100000 in
set_option maxHeartbeats 3200000 in
theorem walk (a : Option Addr) (len cap : Nat) (zs : List Int) (first lg0 : Nat) (w : World) (hz : IsRow w a len cap zs) (hf : first < 4294967296) (hl : lg0 < 256) :
    Calls Try.prog 11 #[.slice a len cap, .int .u32 (first : Int), .int .u8 (lg0 : Int)] w (RetTrue w) := by
  obtain ⟨lg, hlg⟩ : ∃ lg : Nat, lg = lg0 % 6 := ⟨_, rfl⟩
  have hlg5 : lg ≤ 5 := by omega
  have elg : ((lg0 : Int) % 6) = (lg : Int) := by omega
  clear hlg
  obtain ⟨K, hK⟩ : ∃ K, K = 2 ^ lg := ⟨_, rfl⟩
  have hK2 : 1 ≤ K ∧ K ≤ 32 := by
    rw [hK]
    match lg, hlg5 with
    | 0, _ | 1, _ | 2, _ | 3, _ | 4, _ | 5, _ => exact ⟨by decide, by decide⟩
  have HK := Lib.hid hK
  clear hK
  obtain ⟨i0, hi, hz0, hz1, hz2⟩ := info_parts info_isum
  obtain ⟨i1, hj, hy0, hy1, hy2⟩ := info_parts infoBool
  obtain ⟨X, hX⟩ : ∃ X, X = allW first zs := ⟨_, rfl⟩
  have HX0 : Hid (X 0 = first) := by rw [hX]; exact allW_zero _ _
  have HXS : Hid (∀ i, X (i + 1) = wordOf zs i) := by rw [hX]; exact allW_succ _ _
  clear hX
  obtain ⟨S, M, E, hsum⟩ := parts_sum X K
  have HS := Lib.hid hsum
  clear hsum
  have HSUM : Hid (∀ n, ∃ s m e, IsSum (parts X K) n s m e) := fun n => by
    obtain ⟨p, hp⟩ := sum_exists (parts X K) n
    exact ⟨_, _, _, hp⟩
  rcases hz with ⟨rfl, rfl, rfl, rfl⟩ | ⟨x, rfl, h1, h2, h3, h4, h5⟩
  · go_enter Try.func11, Try.ntmps11
    go_wp2_with fail
    refine (block_any first lg K hf hlg5 HK.out _).mono ?_
    rintro e w1 ⟨va, rfl, hl1, hb1⟩
    have HL1 := Lib.hid hl1
    have HB1 := Lib.hid hb1
    clear hl1 hb1
    go_wp2_with fail
    have HP0 : pg (fun _ => first) K = upg (parts X K) (1 * K) := by
      have := parts_pg X (K := K) (i := 0) (by omega) (by omega)
      rw [HX0.out] at this
      rw [this, Nat.one_mul]
      exact upg_congr fun k _ => by rw [Nat.zero_mul, Nat.zero_add]
    have hne : upg (parts X K) (1 * K) ≠ [] := fun h => by have := upg_length (parts X K) (1 * K); rw [h] at this; simp at this; omega
    rw [HP0] at HL1
    have hs0 : IsSum (parts X K) (1 * K) (S 0) (M 0) (E 0) := by rw [Nat.one_mul]; exact (HS.out 0).congr fun k _ => by rw [Nat.zero_mul, Nat.zero_add]
    refine (summary_upg _ va _ (1 * K) _ _ _ _ (Nat.le_refl _) (by omega) (HL1.out.reads hne) hs0).mono ?_
    rintro e w2 ⟨rfl, hb2⟩
    have HB2 := Lib.hid (HB1.out.trans (hb2.mono HB1.out.size))
    have HL2 := Lib.hid (owns_later HL1.out hb2)
    clear hb2 hs0 HP0 hne
    go_wp2
    generalize hW3 : w2.alloc _ = w3
    have HC3 : Hid (w3.ownsRow w.heap.size 44 3 (.slice (some ⟨w2.heap.size, 0, none⟩) 1 1) 1 (trip S M E 1)) := by
      rw [← hW3]; exact owns_one (Cells3.new' _ _ _ _ _ _ rfl) HB2.out.size
    have HL3 : Hid (Lst w3 w.heap.size va (upg (parts X K) (1 * K))) := by rw [← hW3]; exact owns_later HL2.out ((Below.refl _ _).alloc (Nat.le_refl _) _)
    have HB3 : Hid (Below w.heap.size w w3) := by rw [← hW3]; exact HB2.out.alloc HB2.out.size _
    clear hW3
    go_loopw [8, 9, 32] (fun va vs i wr => ∃ k : Nat, k ≤ 0 ∧ i = .int .i64 k ∧ Lst wr w.heap.size va (upg (parts X K) ((k + 1) * K)) ∧ wr.ownsRow w.heap.size 44 3 vs (k + 1) (trip S M E (k + 1)) ∧ Below w.heap.size w wr) (fun _ _ i _ => 0 - (intOf i).toNat)
    case atStart => exact ⟨0, Nat.zero_le _, rfl, by rw [Nat.zero_add]; exact HL3.out, HC3.out, HB3.out⟩
    case round =>
      obtain ⟨k, hk, rfl, hl4, hs4, hb4⟩ := hrel
      have HL4 := Lib.hid hl4
      have HS4 := Lib.hid hs4
      have HB4 := Lib.hid hb4
      have hs4s := hb4.size
      clear hl4 hs4 hb4 HL3 HC3 HB3 HL2 HL1
      by_cases hlt : k < 0
      · omega
      · obtain rfl : 0 = k := by omega
        have hnK : (0 + 1) * K ≤ 1001 * 32 := Nat.mul_le_mul (by omega) hK2.2
        have hne : upg (parts X K) ((0 + 1) * K) ≠ [] := fun h => by
          have h6 := upg_length (parts X K) ((0 + 1) * K)
          rw [h] at h6
          have : 1 ≤ (0 + 1) * K := Nat.mul_pos (by omega) (by omega)
          simp at h6; omega
        have HR4 := Lib.hid (read3_own (by omega) HS4.out)
        go_wp2_with fail
        refine (impl_Merge (parts X K) K lg (0 + 1) S M E HK.out (by omega) (by omega) (by omega) (fun i _ => HS.out i) _ _ _ (Nat.le_refl _) HR4.out).mono ?_
        rintro e w5 ⟨a, b, c, hQ, rfl, hb5⟩
        have HL5 := Lib.hid (Lst.reads (w := w5) (base := w.heap.size) (owns_later HL4.out hb5) hne)
        have HB5 := Lib.hid (HB4.out.trans (hb5.mono HB4.out.size))
        have HQ := Lib.hid hQ
        clear hb5 hQ
        go_wp2_with fail
        refine (summary_upg _ u8 _ ((0 + 1) * K) a b c _ (Nat.le_refl _) (by omega) HL5.out HQ.out).mono ?_
        rintro e w6 ⟨rfl, hb6⟩
        have HB6 := Lib.hid (HB5.out.trans (hb6.mono HB5.out.size))
        clear hb6
        go_wp2
        go_ret
        exact ⟨rfl, HB6.out⟩
  · have HX : Hid (∀ i, i < len → wordOf zs i < 4294967296 ∧ w.cell? (x.add i) = some (.int .u32 (wordOf zs i : Int))) := IsRow.word h1 h3 h4 h5
    unfold maxLen at h2
    clear h3 h4 h5
    go_enter Try.func11, Try.ntmps11
    by_cases hbig : 2147483647 < len
    · have hd : decide ((2147483647 : Int) < (len : Int)) = true := by simp; omega
      go_wp2
      go_ret
      exact ⟨rfl, Below.refl _ _⟩
    · have hd : decide ((2147483647 : Int) < (len : Int)) = false := by simp; omega
      by_cases h1000 : 1000 < len
      · have hm : decide ((1000 : Int) < (len : Int)) = true := by simp; omega
        go_wp2_with fail
        refine (block_any first lg K hf hlg5 HK.out _).mono ?_
        rintro e w1 ⟨va, rfl, hl1, hb1⟩
        have HL1 := Lib.hid hl1
        have HB1 := Lib.hid hb1
        clear hl1 hb1
        go_wp2_with fail
        have HP0 : pg (fun _ => first) K = upg (parts X K) (1 * K) := by
          have := parts_pg X (K := K) (i := 0) (by omega) (by omega)
          rw [HX0.out] at this
          rw [this, Nat.one_mul]
          exact upg_congr fun k _ => by rw [Nat.zero_mul, Nat.zero_add]
        have hne : upg (parts X K) (1 * K) ≠ [] := fun h => by have := upg_length (parts X K) (1 * K); rw [h] at this; simp at this; omega
        rw [HP0] at HL1
        have hs0 : IsSum (parts X K) (1 * K) (S 0) (M 0) (E 0) := by rw [Nat.one_mul]; exact (HS.out 0).congr fun k _ => by rw [Nat.zero_mul, Nat.zero_add]
        refine (summary_upg _ va _ (1 * K) _ _ _ _ (Nat.le_refl _) (by omega) (HL1.out.reads hne) hs0).mono ?_
        rintro e w2 ⟨rfl, hb2⟩
        have HB2 := Lib.hid (HB1.out.trans (hb2.mono HB1.out.size))
        have HL2 := Lib.hid (owns_later HL1.out hb2)
        clear hb2 hs0 HP0 hne
        go_wp2
        generalize hW3 : w2.alloc _ = w3
        have HC3 : Hid (w3.ownsRow w.heap.size 44 3 (.slice (some ⟨w2.heap.size, 0, none⟩) 1 1) 1 (trip S M E 1)) := by
          rw [← hW3]; exact owns_one (Cells3.new' _ _ _ _ _ _ rfl) HB2.out.size
        have HL3 : Hid (Lst w3 w.heap.size va (upg (parts X K) (1 * K))) := by rw [← hW3]; exact owns_later HL2.out ((Below.refl _ _).alloc (Nat.le_refl _) _)
        have HB3 : Hid (Below w.heap.size w w3) := by rw [← hW3]; exact HB2.out.alloc HB2.out.size _
        clear hW3
        go_loopw [8, 9, 32] (fun va vs i wr => ∃ k : Nat, k ≤ 1000 ∧ i = .int .i64 k ∧ Lst wr w.heap.size va (upg (parts X K) ((k + 1) * K)) ∧ wr.ownsRow w.heap.size 44 3 vs (k + 1) (trip S M E (k + 1)) ∧ Below w.heap.size w wr) (fun _ _ i _ => 1000 - (intOf i).toNat)
        case atStart => exact ⟨0, Nat.zero_le _, rfl, by rw [Nat.zero_add]; exact HL3.out, HC3.out, HB3.out⟩
        case round =>
          obtain ⟨k, hk, rfl, hl4, hs4, hb4⟩ := hrel
          have HL4 := Lib.hid hl4
          have HS4 := Lib.hid hs4
          have HB4 := Lib.hid hb4
          have hs4s := hb4.size
          clear hl4 hs4 hb4 HL3 HC3 HB3 HL2 HL1
          by_cases hlt : k < 1000
          · obtain ⟨hx1, hx2⟩ := HX.out k (by omega)
            have hx3 := block_lt_of_cell hx2
            have hx4 := (HB4.out.cell (p := x.add k) hx3).trans hx2
            clear hx2 hx3
            obtain ⟨xk, hxk⟩ : ∃ xk, wordOf zs k = xk := ⟨_, rfl⟩
            rw [hxk] at hx1 hx4
            have HP : Hid (pg (fun _ => xk) K = upg (fun j => parts X K ((k + 1) * K + j)) K) := by
              have := parts_pg X (K := K) (i := k + 1) (by omega) (by omega)
              rw [HXS.out, hxk] at this
              exact this
            clear hxk
            have hnk : upg (fun j => parts X K ((k + 1) * K + j)) K ≠ [] := fun h => by have := upg_length (fun j => parts X K ((k + 1) * K + j)) K; rw [h] at this; simp at this; omega
            go_wp2_with fail
            refine (block_any xk lg K hx1 hlg5 HK.out _).mono ?_
            rintro e w5 ⟨vp, rfl, hl5, hb5⟩
            rw [HP.out] at hl5
            obtain ⟨gp, capp, hvp, _⟩ := hl5.reads hnk
            rw [upg_length] at hvp
            subst hvp
            have HL5 := Lib.hid hl5
            have HB5 := Lib.hid hb5
            clear hl5 hb5 hx4
            go_wp2_with fail
            refine (summary_upg _ _ _ K _ _ _ _ (Nat.le_refl _) (by omega) (HL5.out.reads hnk) (HS.out (k + 1))).mono ?_
            rintro e w6 ⟨rfl, hb6⟩
            have HB6 := Lib.hid hb6
            have HBB := Lib.hid (HB4.out.trans ((HB5.out.trans (hb6.mono HB5.out.size)).mono hs4s))
            have hs6 := HBB.out.size
            clear hb6
            have HS6 := Lib.hid (owns_later (owns_later HS4.out HB5.out) HB6.out)
            have HL6 := Lib.hid (owns_later (owns_later HL4.out HB5.out) HB6.out)
            have HP6 := Lib.hid (owns_later HL5.out HB6.out)
            go_wp2_with (at_builtin; refine wpList_append_own _ rfl _ _ 51 rfl w.heap.size 44 i0 (.agg #[.int .u64 0, .int .u64 0, .int .u64 0]) 3 24 Try.underlying51 hi hz0 hz1 hz2 rfl (by decide) _ _ _ rfl (HS6.out.alloc _) ⟨w6.heap.size, 0, none⟩ 1 1 [.int .u64 (S (k + 1) : Int), .int .u64 (M (k + 1) : Int), .int .u64 (E (k + 1) : Int)] rfl rfl ?c1 ?c2 ?c3 ?c4 ?c5 ?_)
            case c1 => exact cells3_at (Cells3.new' _ _ _ _ _ _ rfl)
            case c2 => intro u hu; simp at hu; rcases hu with rfl | rfl | rfl <;> rfl
            case c3 => unfold maxLen; omega
            case c4 => omega
            case c5 => simp; omega
            intro vs7 w7 hown7 hgrow7 _
            have hgs := hgrow7.size
            have HS7 := Lib.hid hown7
            have HL7 : Hid (w7.ownsRow w.heap.size 4 1 u8 (upg (parts X K) ((k + 1) * K)).length ((upg (parts X K) ((k + 1) * K)).map Value.bool)) := owns_other (HL6.out.alloc _) (HS6.out.alloc _) (by decide) hgrow7
            have HP7 : Hid (Lst w7 wr.heap.size (.slice (some ⟨gp, 0, none⟩) K capp) (upg (fun j => parts X K ((k + 1) * K + j)) K)) := owns_other (HP6.out.alloc _) (HS6.out.alloc _) (by decide) hgrow7
            have HB7 := Lib.hid ((HBB.out.alloc hs6 _).grown hgrow7 (by simp; omega) fun q hq => (HS6.out.lt q hq).1)
            obtain ⟨g8, cap8, hv8, _, _, _, hc8⟩ := HP7.out.reads hnk
            rw [upg_length] at hv8 hc8
            cases hv8
            have hKk : (k + 1) * K + K ≤ 1002 * 32 := by
              have : (k + 1) * K ≤ 1001 * 32 := Nat.mul_le_mul (by omega) hK2.2
              omega
            have hlen := upg_length (parts X K) ((k + 1) * K)
            have hs7 := HB7.out.size
            have HC8 := Lib.hid hc8
            clear hc8 hown7 hgrow7
            go_wp2_with (at_builtin; refine wpList_append_own _ rfl _ _ 28 rfl w.heap.size 4 i1 (.bool false) 1 1 Try.underlying28 hj hy0 hy1 hy2 rfl (by decide) _ _ _ rfl HL7.out ⟨gp, 0, none⟩ K capp ((upg (fun j => parts X K ((k + 1) * K + j)) K).map Value.bool) rfl ?d1 ?d2 ?d3 ?d4 ?d5 ?d6 ?_)
            case d1 => simp [upg_length]
            case d2 =>
              intro j u hu
              have hjK : j < K := by
                apply Nat.lt_of_not_le
                intro hle
                rw [List.getElem?_eq_none (by simp [upg_length]; omega)] at hu
                cases hu
              rw [at_get (by rw [upg_length]; exact hjK)] at hu
              cases hu
              have := HC8.out j hjK
              unfold Addr.add
              split
              · rename_i h0; subst h0; exact this
              · simpa using this
            case d3 => intro u hu; simp at hu; rcases hu with ⟨_, rfl⟩ | ⟨_, rfl⟩ <;> rfl
            case d4 => unfold maxLen; omega
            case d5 => omega
            case d6 => omega
            intro va8 w8 hown8 hgrow8 _
            have HL8 := Lib.hid hown8
            have HS8 := Lib.hid (owns_other HS7.out HL7.out (by decide) hgrow8)
            have HB8 := Lib.hid (HB7.out.grown hgrow8 hs7 fun q hq => (HL7.out.lt q hq).1)
            clear hown8 hgrow8
            go_wp2
            go_roundw
            case rel =>
              refine ⟨k + 1, by omega, by go_num, ?_, HS8.out, HB8.out⟩
              have h9 := HL8.out
              rw [← List.map_append, ← upg_add, ← Nat.succ_mul] at h9
              unfold Lst
              rw [upg_length]
              exact h9
            case measure => simp [intOf]; omega
          · obtain rfl : 1000 = k := by omega
            have hnK : (1000 + 1) * K ≤ 1001 * 32 := Nat.mul_le_mul (by omega) hK2.2
            have hne : upg (parts X K) ((1000 + 1) * K) ≠ [] := fun h => by
              have h6 := upg_length (parts X K) ((1000 + 1) * K)
              rw [h] at h6
              have : 1 ≤ (1000 + 1) * K := Nat.mul_pos (by omega) (by omega)
              simp at h6; omega
            have HR4 := Lib.hid (read3_own (by omega) HS4.out)
            go_wp2_with fail
            refine (impl_Merge (parts X K) K lg (1000 + 1) S M E HK.out (by omega) (by omega) (by omega) (fun i _ => HS.out i) _ _ _ (Nat.le_refl _) HR4.out).mono ?_
            rintro e w5 ⟨a, b, c, hQ, rfl, hb5⟩
            have HL5 := Lib.hid (Lst.reads (w := w5) (base := w.heap.size) (owns_later HL4.out hb5) hne)
            have HB5 := Lib.hid (HB4.out.trans (hb5.mono HB4.out.size))
            have HQ := Lib.hid hQ
            clear hb5 hQ
            go_wp2_with fail
            refine (summary_upg _ u8 _ ((1000 + 1) * K) a b c _ (Nat.le_refl _) (by omega) HL5.out HQ.out).mono ?_
            rintro e w6 ⟨rfl, hb6⟩
            have HB6 := Lib.hid (HB5.out.trans (hb6.mono HB5.out.size))
            clear hb6
            go_wp2
            go_ret
            exact ⟨rfl, HB6.out⟩

      · obtain ⟨m, hm⟩ : ∃ m, m = len := ⟨_, rfl⟩
        go_wp2_with fail
        refine (block_any first lg K hf hlg5 HK.out _).mono ?_
        rintro e w1 ⟨va, rfl, hl1, hb1⟩
        have HL1 := Lib.hid hl1
        have HB1 := Lib.hid hb1
        clear hl1 hb1
        go_wp2_with fail
        have HP0 : pg (fun _ => first) K = upg (parts X K) (1 * K) := by
          have := parts_pg X (K := K) (i := 0) (by omega) (by omega)
          rw [HX0.out] at this
          rw [this, Nat.one_mul]
          exact upg_congr fun k _ => by rw [Nat.zero_mul, Nat.zero_add]
        have hne : upg (parts X K) (1 * K) ≠ [] := fun h => by have := upg_length (parts X K) (1 * K); rw [h] at this; simp at this; omega
        rw [HP0] at HL1
        have hs0 : IsSum (parts X K) (1 * K) (S 0) (M 0) (E 0) := by rw [Nat.one_mul]; exact (HS.out 0).congr fun k _ => by rw [Nat.zero_mul, Nat.zero_add]
        refine (summary_upg _ va _ (1 * K) _ _ _ _ (Nat.le_refl _) (by omega) (HL1.out.reads hne) hs0).mono ?_
        rintro e w2 ⟨rfl, hb2⟩
        have HB2 := Lib.hid (HB1.out.trans (hb2.mono HB1.out.size))
        have HL2 := Lib.hid (owns_later HL1.out hb2)
        clear hb2 hs0 HP0 hne
        go_wp2
        generalize hW3 : w2.alloc _ = w3
        have HC3 : Hid (w3.ownsRow w.heap.size 44 3 (.slice (some ⟨w2.heap.size, 0, none⟩) 1 1) 1 (trip S M E 1)) := by
          rw [← hW3]; exact owns_one (Cells3.new' _ _ _ _ _ _ rfl) HB2.out.size
        have HL3 : Hid (Lst w3 w.heap.size va (upg (parts X K) (1 * K))) := by rw [← hW3]; exact owns_later HL2.out ((Below.refl _ _).alloc (Nat.le_refl _) _)
        have HB3 : Hid (Below w.heap.size w w3) := by rw [← hW3]; exact HB2.out.alloc HB2.out.size _
        clear hW3
        go_loopw [8, 9, 32] (fun va vs i wr => ∃ k : Nat, k ≤ len ∧ i = .int .i64 k ∧ Lst wr w.heap.size va (upg (parts X K) ((k + 1) * K)) ∧ wr.ownsRow w.heap.size 44 3 vs (k + 1) (trip S M E (k + 1)) ∧ Below w.heap.size w wr) (fun _ _ i _ => len - (intOf i).toNat)
        case atStart => exact ⟨0, Nat.zero_le _, rfl, by rw [Nat.zero_add]; exact HL3.out, HC3.out, HB3.out⟩
        case round =>
          obtain ⟨k, hk, rfl, hl4, hs4, hb4⟩ := hrel
          have HL4 := Lib.hid hl4
          have HS4 := Lib.hid hs4
          have HB4 := Lib.hid hb4
          have hs4s := hb4.size
          clear hl4 hs4 hb4 HL3 HC3 HB3 HL2 HL1
          by_cases hlt : k < len
          · obtain ⟨hx1, hx2⟩ := HX.out k (by omega)
            have hx3 := block_lt_of_cell hx2
            have hx4 := (HB4.out.cell (p := x.add k) hx3).trans hx2
            clear hx2 hx3
            obtain ⟨xk, hxk⟩ : ∃ xk, wordOf zs k = xk := ⟨_, rfl⟩
            rw [hxk] at hx1 hx4
            have HP : Hid (pg (fun _ => xk) K = upg (fun j => parts X K ((k + 1) * K + j)) K) := by
              have := parts_pg X (K := K) (i := k + 1) (by omega) (by omega)
              rw [HXS.out, hxk] at this
              exact this
            clear hxk
            have hnk : upg (fun j => parts X K ((k + 1) * K + j)) K ≠ [] := fun h => by have := upg_length (fun j => parts X K ((k + 1) * K + j)) K; rw [h] at this; simp at this; omega
            go_wp2_with fail
            refine (block_any xk lg K hx1 hlg5 HK.out _).mono ?_
            rintro e w5 ⟨vp, rfl, hl5, hb5⟩
            rw [HP.out] at hl5
            obtain ⟨gp, capp, hvp, _⟩ := hl5.reads hnk
            rw [upg_length] at hvp
            subst hvp
            have HL5 := Lib.hid hl5
            have HB5 := Lib.hid hb5
            clear hl5 hb5 hx4
            go_wp2_with fail
            refine (summary_upg _ _ _ K _ _ _ _ (Nat.le_refl _) (by omega) (HL5.out.reads hnk) (HS.out (k + 1))).mono ?_
            rintro e w6 ⟨rfl, hb6⟩
            have HB6 := Lib.hid hb6
            have HBB := Lib.hid (HB4.out.trans ((HB5.out.trans (hb6.mono HB5.out.size)).mono hs4s))
            have hs6 := HBB.out.size
            clear hb6
            have HS6 := Lib.hid (owns_later (owns_later HS4.out HB5.out) HB6.out)
            have HL6 := Lib.hid (owns_later (owns_later HL4.out HB5.out) HB6.out)
            have HP6 := Lib.hid (owns_later HL5.out HB6.out)
            go_wp2_with (at_builtin; refine wpList_append_own _ rfl _ _ 51 rfl w.heap.size 44 i0 (.agg #[.int .u64 0, .int .u64 0, .int .u64 0]) 3 24 Try.underlying51 hi hz0 hz1 hz2 rfl (by decide) _ _ _ rfl (HS6.out.alloc _) ⟨w6.heap.size, 0, none⟩ 1 1 [.int .u64 (S (k + 1) : Int), .int .u64 (M (k + 1) : Int), .int .u64 (E (k + 1) : Int)] rfl rfl ?c1 ?c2 ?c3 ?c4 ?c5 ?_)
            case c1 => exact cells3_at (Cells3.new' _ _ _ _ _ _ rfl)
            case c2 => intro u hu; simp at hu; rcases hu with rfl | rfl | rfl <;> rfl
            case c3 => unfold maxLen; omega
            case c4 => omega
            case c5 => simp; omega
            intro vs7 w7 hown7 hgrow7 _
            have hgs := hgrow7.size
            have HS7 := Lib.hid hown7
            have HL7 : Hid (w7.ownsRow w.heap.size 4 1 u8 (upg (parts X K) ((k + 1) * K)).length ((upg (parts X K) ((k + 1) * K)).map Value.bool)) := owns_other (HL6.out.alloc _) (HS6.out.alloc _) (by decide) hgrow7
            have HP7 : Hid (Lst w7 wr.heap.size (.slice (some ⟨gp, 0, none⟩) K capp) (upg (fun j => parts X K ((k + 1) * K + j)) K)) := owns_other (HP6.out.alloc _) (HS6.out.alloc _) (by decide) hgrow7
            have HB7 := Lib.hid ((HBB.out.alloc hs6 _).grown hgrow7 (by simp; omega) fun q hq => (HS6.out.lt q hq).1)
            obtain ⟨g8, cap8, hv8, _, _, _, hc8⟩ := HP7.out.reads hnk
            rw [upg_length] at hv8 hc8
            cases hv8
            have hKk : (k + 1) * K + K ≤ 1002 * 32 := by
              have : (k + 1) * K ≤ 1001 * 32 := Nat.mul_le_mul (by omega) hK2.2
              omega
            have hlen := upg_length (parts X K) ((k + 1) * K)
            have hs7 := HB7.out.size
            have HC8 := Lib.hid hc8
            clear hc8 hown7 hgrow7
            go_wp2_with (at_builtin; refine wpList_append_own _ rfl _ _ 28 rfl w.heap.size 4 i1 (.bool false) 1 1 Try.underlying28 hj hy0 hy1 hy2 rfl (by decide) _ _ _ rfl HL7.out ⟨gp, 0, none⟩ K capp ((upg (fun j => parts X K ((k + 1) * K + j)) K).map Value.bool) rfl ?d1 ?d2 ?d3 ?d4 ?d5 ?d6 ?_)
            case d1 => simp [upg_length]
            case d2 =>
              intro j u hu
              have hjK : j < K := by
                apply Nat.lt_of_not_le
                intro hle
                rw [List.getElem?_eq_none (by simp [upg_length]; omega)] at hu
                cases hu
              rw [at_get (by rw [upg_length]; exact hjK)] at hu
              cases hu
              have := HC8.out j hjK
              unfold Addr.add
              split
              · rename_i h0; subst h0; exact this
              · simpa using this
            case d3 => intro u hu; simp at hu; rcases hu with ⟨_, rfl⟩ | ⟨_, rfl⟩ <;> rfl
            case d4 => unfold maxLen; omega
            case d5 => omega
            case d6 => omega
            intro va8 w8 hown8 hgrow8 _
            have HL8 := Lib.hid hown8
            have HS8 := Lib.hid (owns_other HS7.out HL7.out (by decide) hgrow8)
            have HB8 := Lib.hid (HB7.out.grown hgrow8 hs7 fun q hq => (HL7.out.lt q hq).1)
            clear hown8 hgrow8
            go_wp2
            go_roundw
            case rel =>
              refine ⟨k + 1, by omega, by go_num, ?_, HS8.out, HB8.out⟩
              have h9 := HL8.out
              rw [← List.map_append, ← upg_add, ← Nat.succ_mul] at h9
              unfold Lst
              rw [upg_length]
              exact h9
            case measure => simp [intOf]; omega
          · obtain rfl : len = k := by omega
            have hnK : (len + 1) * K ≤ 1001 * 32 := Nat.mul_le_mul (by omega) hK2.2
            have hne : upg (parts X K) ((len + 1) * K) ≠ [] := fun h => by
              have h6 := upg_length (parts X K) ((len + 1) * K)
              rw [h] at h6
              have : 1 ≤ (len + 1) * K := Nat.mul_pos (by omega) (by omega)
              simp at h6; omega
            have HR4 := Lib.hid (read3_own (by omega) HS4.out)
            go_wp2_with fail
            refine (impl_Merge (parts X K) K lg (len + 1) S M E HK.out (by omega) (by omega) (by omega) (fun i _ => HS.out i) _ _ _ (Nat.le_refl _) HR4.out).mono ?_
            rintro e w5 ⟨a, b, c, hQ, rfl, hb5⟩
            have HL5 := Lib.hid (Lst.reads (w := w5) (base := w.heap.size) (owns_later HL4.out hb5) hne)
            have HB5 := Lib.hid (HB4.out.trans (hb5.mono HB4.out.size))
            have HQ := Lib.hid hQ
            clear hb5 hQ
            go_wp2_with fail
            refine (summary_upg _ u8 _ ((len + 1) * K) a b c _ (Nat.le_refl _) (by omega) HL5.out HQ.out).mono ?_
            rintro e w6 ⟨rfl, hb6⟩
            have HB6 := Lib.hid (HB5.out.trans (hb6.mono HB5.out.size))
            clear hb6
            go_wp2
            go_ret
            exact ⟨rfl, HB6.out⟩

set_option maxRecDepth 100000 in
theorem lifted (os : Os) (started : os.Started) (H : Type) (enc : TypeId × Value → H) :
    ReturnsInHanded {} Try.checked os 11 .any (Rows.fnExactMergeSpec.pre6 enc Try.prog Try.f11 Rows.fnExactMergeRow.domain false) (Rows.fnExactMergeSpec.post enc Try.prog Try.f11 false true false false) := by
  refine returnsInHanded_of_change (C := Try.checked) own started (by kernel_rfl) Try.func11
    (ChangeSpec.witness6 (enc := enc) (C := Try.checked) false ⟨#[], #[.slice none 0 0, .int .u32 0, .int .u8 0], []⟩ 8 (by kernel_rfl) (by kernel_rfl) (by kernel_rfl) (by kernel_rfl)) ?_
  intro W base args ds gs before hval0 hW hcnd _
  have hval : ∀ (j : Nat) t v, Try.f11.params[j]? = some t → args[j]? = some v → Value.okWide Try.prog W .any base t v := hval0
  have hW' := hW
  obtain ⟨p, q, hA0, hV, rfl, hfz, hnd⟩ := hW
  have hA : DataW.TrodAll enc Try.prog W 0 (fun _ => true) true Try.f11.params.toList args.toList ds p := hA0
  rw [Try.params11] at hA hval
  obtain ⟨v0, vs0, d0, ds0, p0, q0, hargs, rfl, rfl, h0, r0⟩ := trodAll_cons hA
  obtain ⟨v1, vs1, d1, ds1, p1, q1, rfl, rfl, rfl, h1, r1⟩ := trodAll_cons r0
  obtain ⟨v2, vs2, d2, ds2, p2, q2, rfl, rfl, rfl, h2, r2⟩ := trodAll_cons r1
  obtain ⟨rfl, rfl, rfl⟩ := trodAll_nil r2
  obtain rfl : args = #[v0, v1, v2] := by cases args; simp_all
  obtain ⟨rfl, rfl⟩ := trodVars_none hV
  have k0 := h0
  have lt0 : ∀ x ∈ p0, x.block < W.heap.size := by obtain ⟨m, hm⟩ := k0; exact DataW.trod_lt m _ _ _ hm
  obtain ⟨a0, len0, cap0, rfl⟩ := okWide_slice Try.underlying48 (hval 0 48 v0 rfl rfl)
  obtain ⟨z0, w0⟩ : ∃ zs, IsRow W a0 len0 cap0 zs := by
    obtain ⟨fuel, hf⟩ := h0
    rcases open_ints Try.underlying48 Try.underlying42 (by kernel_rfl) hf with ⟨hcs, _⟩ | ⟨x, l, c, zs, hcs, _, hl, hm, hz, _, hcell, hwz⟩
    · simp [Value.cells] at hcs
      obtain ⟨rfl, rfl, rfl⟩ := hcs
      exact ⟨[], .inl ⟨rfl, rfl, rfl, rfl⟩⟩
    · simp [Value.cells] at hcs
      obtain ⟨rfl, rfl, rfl⟩ := hcs
      exact ⟨zs, .inr ⟨_, rfl, hl, hm, by simpa using hz, hcell, hwz⟩⟩
  have k1 := h1
  have lt1 : ∀ x ∈ p1, x.block < W.heap.size := by obtain ⟨m, hm⟩ := k1; exact DataW.trod_lt m _ _ _ hm
  obtain ⟨n1, rfl, rfl, rfl, f1⟩ := open_int Try.underlying42 (hval 1 42 v1 rfl rfl) h1
  have b1 := bounds_u32 f1
  obtain ⟨a1, rfl⟩ := Int.eq_ofNat_of_zero_le b1.1
  have w1 : a1 < 4294967296 := by omega
  have k2 := h2
  have lt2 : ∀ x ∈ p2, x.block < W.heap.size := by obtain ⟨m, hm⟩ := k2; exact DataW.trod_lt m _ _ _ hm
  obtain ⟨n2, rfl, rfl, rfl, f2⟩ := open_int Try.underlying5 (hval 2 5 v2 rfl rfl) h2
  have b2 := bounds_u8 f2
  obtain ⟨a2, rfl⟩ := Int.eq_ofNat_of_zero_le b2.1
  have w2 : a2 < 256 := by omega
  clear hA0 hval0
  refine (walk a0 len0 cap0 z0 a1 a2 W w0 w1 w2).mono fun e W' ⟨he, bel⟩ => ?_
  subst he
  exact ⟨_, rfl, _, _, _, [], _, [], hW', trodAll_mk1 (shut_bool Try.underlying4 _), (trodAll_cons_mk (Below.trod laidOut (by kernel_rfl) (of_decide_eq_true (by kernel_rfl)) k0 bel lt0) (trodAll_cons_mk (Below.trod laidOut (by kernel_rfl) (of_decide_eq_true (by kernel_rfl)) k1 bel lt1) (trodAll_cons_mk (Below.trod laidOut (by kernel_rfl) (of_decide_eq_true (by kernel_rfl)) k2 bel lt2) trodAll_mk0))), rfl, bel.frame _, fun h => by cases h⟩

theorem over : Rows.fnExactMergeRow.holds Try.pinned (OpenSpec.ofChange Rows.fnExactMergeSpec) :=
  OpenClaim.holds_of_wide 11 Try.f11 rfl rfl rfl rfl rfl rfl rfl ⟨rfl, rfl, rfl, rfl, rfl⟩ rfl rfl rfl rfl rfl (by kernel_rfl) Try.func11 (by kernel_rfl)
    (of_decide_eq_true (by kernel_rfl)) (by unfold Func.isWrapper; first | (rw [if_pos (by decide +kernel)]; kernel_rfl) | (rw [if_neg (by decide +kernel)]; exact ⟨rfl, rfl⟩))
    (fun os started H enc _ => lifted os started H enc)

theorem proved : Rows.FnExactMergeSaid := over
#print axioms proved
end Go.Proofs.Ytkocngnpkfnblaa.fnExactMerge
