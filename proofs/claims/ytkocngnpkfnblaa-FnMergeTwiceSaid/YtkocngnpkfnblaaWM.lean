/- seats: P D. The walk of mergeSummaries. -/
import Derived.Test.YtkocngnpkfnblaaWY
namespace Go.Proofs.Ytkocngnpkfnblaa
open Go.RowKit

/-- n parts of K pages each, with their summaries -/
def Parts (u : Nat → Bool) (K n : Nat) (s m e : Nat → Nat) : Prop := ∀ i, i < n → IsSum (fun k => u (i * K + k)) K (s i) (m i) (e i)

theorem IsSum.le' {u : Nat → Bool} {L s m e : Nat} (h : IsSum u L s m e) : s ≤ L ∧ m ≤ L ∧ e ≤ L := by
  obtain ⟨⟨h1, _⟩, ⟨⟨i, h2, _⟩, _⟩, h3, _⟩ := h
  omega
theorem IsSum.sums' {u : Nat → Bool} {L s m e : Nat} (h : IsSum u L s m e) (hL : L < 2097152) : Sums s m e := by
  have := h.le'
  exact .inl (by omega)

set_option maxRecDepth 100000 in
set_option maxHeartbeats 1600000 in
theorem merge_any (u : Nat → Bool) (K lg n : Nat) (s m e : Nat → Nat) (hK : K = 2 ^ lg) (hlg : lg < 21) (hn : 1 ≤ n) (hnK : n * K < 2097152) (hp : Parts u K n s m e) (g cap : Nat) (w : World) (hcap : n ≤ cap ∧ cap ≤ maxLen)
    (hc : ∀ i, i < n → w.cell? ⟨g, i, none⟩ = some (.int .u64 (packN (s i) (m i) (e i) : Nat))) :
    Calls Try.prog 60 #[.slice (some ⟨g, 0, none⟩) n cap, .int .u64 (lg : Int)] w fun en w' => (∃ a b c : Nat, IsSum u (n * K) a b c ∧ en = .returned (.int .u64 (packN a b c : Nat))) ∧ w = w' := by
  obtain ⟨hc1, hc2⟩ := hcap
  unfold maxLen at hc2
  have hKpos : 1 ≤ K := by rw [hK]; exact Nat.one_le_two_pow
  have hKn : K ≤ n * K := Nat.le_mul_of_pos_left K hn
  have hnn : n ≤ n * K := Nat.le_mul_of_pos_right n hKpos
  have HK : Hid (∀ i : Nat, i ≤ n → IntKind.u64.wrap ((i : Int) * 2 ^ lg) = ((i * K : Nat) : Int)) := fun i hi => by
    have : i * K ≤ n * K := Nat.mul_le_mul_right K hi
    rw [powN, ← hK, ← Int.natCast_mul]
    exact IntWalk.u64_in _ (by omega)
  have e1 : IntKind.u64.wrap (2 ^ lg) = (K : Int) := by
    rw [powN, ← hK]; exact IntWalk.u64_in _ (by omega)
  have HP := Lib.hid hp
  have HC := Lib.hid hc
  have HS : Hid (∀ i, i < n → Sums (s i) (m i) (e i)) := fun i hi => (hp i hi).sums' (by omega)
  have k0 := hc 0 (by omega)
  clear hK hp hc
  generalize hp0 : packN (s 0) (m 0) (e 0) = p0 at k0
  have HP0 := Lib.hid hp0
  clear hp0
  go_enter Try.func60, Try.ntmps60
  go_wp2_with fail
  rw [← HP0.out]
  refine (unpack_any _ _ _ _ (HS.out 0 (by omega))).mono ?_
  rintro en w1 ⟨rfl, rfl⟩
  go_wp2
  go_loop [5, 6, 7, 8] (fun x y z k => ∃ a1 b1 c1 i : Nat, 1 ≤ i ∧ i ≤ n ∧ k = .int .i64 i ∧ x = .int .u64 a1 ∧ y = .int .u64 b1 ∧ z = .int .u64 c1 ∧ IsSum u (i * K) a1 b1 c1) (fun _ _ _ k => n - (intOf k).toNat)
  case atStart => exact ⟨s 0, m 0, e 0, 1, by omega, hn, rfl, rfl, rfl, rfl, by have := HP.out 0 (by omega); simpa using this⟩
  case round =>
    obtain ⟨a1, b1, c1, i, hi1, hi2, rfl, rfl, rfl, rfl, hsum⟩ := hrel
    have hle := hsum.le'
    by_cases hlt : i < n
    · have ki := HC.out i hlt
      have hpi := HP.out i hlt
      have hlp := hpi.le'
      have hstep := merge_step hsum hpi
      have ex := HK.out i (by omega)
      have hXn : i * K + K ≤ n * K := by rw [← Nat.succ_mul]; exact Nat.mul_le_mul_right K hlt
      obtain ⟨si, es⟩ : ∃ si, s i = si := ⟨_, rfl⟩
      obtain ⟨mi, em⟩ : ∃ mi, m i = mi := ⟨_, rfl⟩
      obtain ⟨ei, ee⟩ : ∃ ei, e i = ei := ⟨_, rfl⟩
      obtain ⟨X, hX⟩ : ∃ X, i * K = X := ⟨_, rfl⟩
      rw [es, em, ee] at hlp hstep
      rw [hX] at ex hXn hle hstep
      generalize hpp : packN (s i) (m i) (e i) = pi at ki
      have HPI := Lib.hid hpp
      clear hpp hpi hsum k0
      by_cases h1 : a1 = X
      · rw [if_pos h1] at hstep
        have d1 : ((a1 : Int) == (X : Int)) = true := by simp; omega
        by_cases h2 : ei = K
        · rw [if_pos h2] at hstep
          have d2 : ((ei : Int) == (K : Int)) = true := by simp; omega
          have HN := Lib.hid hstep
          clear hstep
          go_wp2_with fail
          rw [← HPI.out]
          refine (unpack_any _ _ _ _ (HS.out i hlt)).mono ?_
          rintro en w1 ⟨rfl, rfl⟩
          rw [es, em, ee]
          go_wp2
          go_round
          case rel => exact ⟨a1 + si, max (max b1 (c1 + si)) mi, c1 + K, i + 1, by omega, by omega, by go_num, by first | rfl | go_num, by congr 1; omega, by first | rfl | go_num, by rw [Nat.succ_mul, hX]; exact HN.out⟩
          case measure => simp [intOf]; omega
        · rw [if_neg h2] at hstep
          have d2 : ((ei : Int) == (K : Int)) = false := by simp; omega
          have HN := Lib.hid hstep
          clear hstep
          go_wp2_with fail
          rw [← HPI.out]
          refine (unpack_any _ _ _ _ (HS.out i hlt)).mono ?_
          rintro en w1 ⟨rfl, rfl⟩
          rw [es, em, ee]
          go_wp2
          go_round
          case rel => exact ⟨a1 + si, max (max b1 (c1 + si)) mi, ei, i + 1, by omega, by omega, by go_num, by first | rfl | go_num, by congr 1; omega, by first | rfl | go_num, by rw [Nat.succ_mul, hX]; exact HN.out⟩
          case measure => simp [intOf]; omega
      · rw [if_neg h1] at hstep
        have d1 : ((a1 : Int) == (X : Int)) = false := by simp; omega
        by_cases h2 : ei = K
        · rw [if_pos h2] at hstep
          have d2 : ((ei : Int) == (K : Int)) = true := by simp; omega
          have HN := Lib.hid hstep
          clear hstep
          go_wp2_with fail
          rw [← HPI.out]
          refine (unpack_any _ _ _ _ (HS.out i hlt)).mono ?_
          rintro en w1 ⟨rfl, rfl⟩
          rw [es, em, ee]
          go_wp2
          go_round
          case rel => exact ⟨a1, max (max b1 (c1 + si)) mi, c1 + K, i + 1, by omega, by omega, by go_num, by first | rfl | go_num, by congr 1; omega, by first | rfl | go_num, by rw [Nat.succ_mul, hX]; exact HN.out⟩
          case measure => simp [intOf]; omega
        · rw [if_neg h2] at hstep
          have d2 : ((ei : Int) == (K : Int)) = false := by simp; omega
          have HN := Lib.hid hstep
          clear hstep
          go_wp2_with fail
          rw [← HPI.out]
          refine (unpack_any _ _ _ _ (HS.out i hlt)).mono ?_
          rintro en w1 ⟨rfl, rfl⟩
          rw [es, em, ee]
          go_wp2
          go_round
          case rel => exact ⟨a1, max (max b1 (c1 + si)) mi, ei, i + 1, by omega, by omega, by go_num, by first | rfl | go_num, by congr 1; omega, by first | rfl | go_num, by rw [Nat.succ_mul, hX]; exact HN.out⟩
          case measure => simp [intOf]; omega
    · obtain rfl : n = i := by omega
      have HN := Lib.hid hsum
      go_wp2_with fail
      refine (pack_any a1 b1 c1 _ (HN.out.sums' (by omega))).mono ?_
      rintro en w1 ⟨rfl, rfl⟩
      go_wp2
      go_ret
      exact ⟨⟨_, _, _, HN.out, rfl⟩, rfl⟩
end Go.Proofs.Ytkocngnpkfnblaa
