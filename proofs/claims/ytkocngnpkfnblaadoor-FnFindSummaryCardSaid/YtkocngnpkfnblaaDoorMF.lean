/- seats: D. Plain facts on the search for free pages, word by word. -/
import Derived.Test.YtkocngnpkfnblaaDoorMW
namespace Go.Proofs.YtkocngnpkfnblaaDoor
open Go

/-- q is the first free page below L, or the greatest number where there is none -/
def Seen (u : Nat → Bool) (L q : Nat) : Prop := (q = 18446744073709551615 ∧ ∀ k, k < L → u k = true) ∨ (q < L ∧ u q = false ∧ ∀ k, k < q → u k = true)
/-- no n pages in a row are free below L -/
def NoRun (u : Nat → Bool) (L n : Nat) : Prop := ∀ k, ¬ FreeAt u L k n
/-- what a search for n pages tells -/
def Found (u : Nat → Bool) (n r q : Nat) : Prop := (r < 512 ∧ IsFirst u 512 n r ∧ Seen u 512 q) ∨ (r = 18446744073709551615 ∧ NoRun u 512 n)

theorem NoRun.first {u : Nat → Bool} {L n : Nat} (h : NoRun u L n) : IsFirst u L n L := .inr ⟨rfl, fun k _ => h k⟩
theorem IsFirst.noRun {u : Nat → Bool} {L n : Nat} (hn : 1 ≤ n) (h : IsFirst u L n L) : NoRun u L n := by
  rcases h with ⟨h1, _⟩ | ⟨_, h2⟩
  · omega
  · intro k hk
    exact h2 k (by have := hk.1; omega) hk

theorem not_max {x : Nat} (hx : x < 18446744073709551616) (h : x ≠ 18446744073709551615) :
    Lib.ctz 64 (18446744073709551615 - x) < 64 ∧ x.testBit (Lib.ctz 64 (18446744073709551615 - x)) = false ∧ ∀ j, j < Lib.ctz 64 (18446744073709551615 - x) → x.testBit j = true := by
  obtain ⟨h1, h2, h3⟩ := ctz_spec (x := 18446744073709551615 - x) (by omega) (by omega)
  refine ⟨h1, ?_, fun j hj => ?_⟩
  · rw [tb_not hx] at h2
    simpa [h1] using h2
  · have := h3 j hj
    rw [tb_not hx] at this
    simpa [show j < 64 by omega] using this

theorem bt_in {b : Nat → Nat} {i k : Nat} (h1 : 64 * i ≤ k) (h2 : k < 64 * (i + 1)) : bt b k = (b i).testBit (k - 64 * i) := by
  have := bt_word b i (k - 64 * i) (by omega)
  rwa [show 64 * i + (k - 64 * i) = k from by omega] at this

theorem used_max {b : Nat → Nat} {i k : Nat} (h : b i = 18446744073709551615) (h1 : 64 * i ≤ k) (h2 : k < 64 * (i + 1)) : bt b k = true := by
  rw [bt_in h1 h2, h]
  exact tb_max (by omega)

theorem Seen.used {b : Nat → Nat} {i q : Nat} (hs : Seen (bt b) (64 * i) q) (h : b i = 18446744073709551615) : Seen (bt b) (64 * (i + 1)) q := by
  rcases hs with ⟨h1, h2⟩ | ⟨h1, h2, h3⟩
  · refine .inl ⟨h1, fun k hk => ?_⟩
    by_cases hlt : k < 64 * i
    · exact h2 k hlt
    · exact used_max h (by omega) hk
  · exact .inr ⟨by omega, h2, h3⟩
theorem Seen.new {b : Nat → Nat} {i q : Nat} (hi : i < 8) (hs : Seen (bt b) (64 * i) q) (hq : q = 18446744073709551615) (hx : b i < 18446744073709551616) (h : b i ≠ 18446744073709551615) :
    Seen (bt b) (64 * (i + 1)) (64 * i + Lib.ctz 64 (18446744073709551615 - b i)) := by
  obtain ⟨h1, h2, h3⟩ := not_max hx h
  rcases hs with ⟨_, hu⟩ | ⟨hq2, _⟩
  · refine .inr ⟨by omega, ?_, fun k hk => ?_⟩
    · rw [bt_word b i _ h1]; exact h2
    · by_cases hlt : k < 64 * i
      · exact hu k hlt
      · rw [bt_in (i := i) (by omega) (by omega)]; exact h3 _ (by omega)
  · omega
theorem Seen.old {b : Nat → Nat} {i q : Nat} (hs : Seen (bt b) (64 * i) q) (hq : q ≠ 18446744073709551615) (j : Nat) (hj : i ≤ j) : Seen (bt b) (64 * j) q := by
  rcases hs with ⟨h1, _⟩ | ⟨h1, h2, h3⟩
  · exact absurd h1 hq
  · exact .inr ⟨by omega, h2, h3⟩
theorem Seen.grow {b : Nat → Nat} {i q : Nat} (hi : i ≤ 8) (hs : Seen (bt b) (64 * i) q) (hq : q ≠ 18446744073709551615) : Seen (bt b) 512 q := hs.old hq 8 hi

theorem tail_max {b : Nat → Nat} {i : Nat} (h : b i = 18446744073709551615) : IsTail (bt b) (64 * (i + 1)) 0 :=
  ⟨by omega, Clear.zero _ _, fun _ => used_max h (by omega) (by omega)⟩
theorem tail_start {u : Nat → Bool} {i : Nat} (h : ∀ k, k < 64 * i → u k = true) : IsTail u (64 * i) 0 :=
  ⟨by omega, Clear.zero _ _, fun h0 => h _ (by omega)⟩
theorem norun_start {u : Nat → Bool} {i n : Nat} (hn : 1 ≤ n) (h : ∀ k, k < 64 * i → u k = true) : NoRun u (64 * i) n := by
  intro k ⟨h1, h2⟩
  have := h2 k (by omega) (by omega)
  rw [h k (by omega)] at this
  cases this
theorem tail_clz {b : Nat → Nat} {i : Nat} (hx : b i < 18446744073709551616) (h : b i ≠ 0) : IsTail (bt b) (64 * (i + 1)) (clz (b i)) := by
  have h2 := (clz_spec hx).2 h
  refine ⟨by omega, fun k a c => ?_, fun _ => ?_⟩
  · rw [bt_in (i := i) (by omega) (by omega)]
    exact clz_high hx (by omega)
  · rw [bt_in (i := i) (by omega) (by omega), show 64 * (i + 1) - 1 - clz (b i) - 64 * i = 63 - clz (b i) from by omega]
    exact h2.2
theorem clear_zero {b : Nat → Nat} {i k : Nat} (h : b i = 0) (h1 : 64 * i ≤ k) (h2 : k < 64 * (i + 1)) : bt b k = false := by
  rw [bt_in h1 h2, h]; simp
theorem tail_add {b : Nat → Nat} {i e : Nat} (h : b i = 0) (ht : IsTail (bt b) (64 * i) e) : IsTail (bt b) (64 * (i + 1)) (e + 64) := by
  obtain ⟨h1, h2, h3⟩ := ht
  refine ⟨by omega, fun k a c => ?_, fun h0 => ?_⟩
  · by_cases hlt : k < 64 * i
    · exact h2 k (by omega) (by omega)
    · exact clear_zero h (by omega) (by omega)
  · rw [show 64 * (i + 1) - 1 - (e + 64) = 64 * i - 1 - e from by omega]
    exact h3 (by omega)

theorem clear_ctz {b : Nat → Nat} {i k : Nat} (hx : b i < 18446744073709551616) (h1 : 64 * i ≤ k) (h2 : k < 64 * i + Lib.ctz 64 (b i)) : bt b k = false := by
  have := ctz_le (b i) hx
  rw [bt_in h1 (by omega)]
  exact ctz_low hx (by omega)
theorem used_ctz {b : Nat → Nat} {i : Nat} (hx : b i < 18446744073709551616) (h2 : Lib.ctz 64 (b i) < 64) : bt b (64 * i + Lib.ctz 64 (b i)) = true := by
  rw [bt_word b i _ h2]
  exact ctz_at hx h2

/-- the run at the words' border is long enough -/
theorem first_border {b : Nat → Nat} {i e n : Nat} (hi : i < 8) (hn : 1 ≤ n) (hx : b i < 18446744073709551616) (ht : IsTail (bt b) (64 * i) e) (hno : NoRun (bt b) (64 * i) n) (h : n ≤ e + Lib.ctz 64 (b i)) :
    64 * i - e < 512 ∧ IsFirst (bt b) 512 n (64 * i - e) := by
  obtain ⟨h1, h2, h3⟩ := ht
  have hc := ctz_le (b i) hx
  refine ⟨by omega, .inl ⟨by omega, ⟨by omega, fun k a c => ?_⟩, fun k hk hf => ?_⟩⟩
  · by_cases hlt : k < 64 * i
    · exact h2 k (by omega) (by omega)
    · exact clear_ctz hx (by omega) (by omega)
  · by_cases hle : k + n ≤ 64 * i
    · exact hno k ⟨hle, hf.2⟩
    · have := hf.2 (64 * i - 1 - e) (by omega) (by omega)
      rw [h3 (by omega)] at this
      cases this

/-- .. or it is not: then no run lies across it -/
theorem no_cross {b : Nat → Nat} {i e n L k : Nat} (hx : b i < 18446744073709551616) (ht : IsTail (bt b) (64 * i) e) (hno : NoRun (bt b) (64 * i) n) (h : e + Lib.ctz 64 (b i) < n)
    (hL : Lib.ctz 64 (b i) < 64 ∨ L ≤ 64 * (i + 1)) (hf : FreeAt (bt b) L k n) : 64 * i ≤ k := by
  obtain ⟨h1, h2, h3⟩ := ht
  have hc := ctz_le (b i) hx
  apply Nat.le_of_not_lt
  intro hlt
  have hfl := hf.1
  by_cases hle : k + n ≤ 64 * i
  · exact hno k ⟨hle, hf.2⟩
  · have hk : 64 * i - e ≤ k := by
      apply Nat.le_of_not_lt
      intro hk
      have := hf.2 (64 * i - 1 - e) (by omega) (by omega)
      rw [h3 (by omega)] at this
      cases this
    by_cases h64 : Lib.ctz 64 (b i) < 64
    · have := hf.2 (64 * i + Lib.ctz 64 (b i)) (by omega) (by omega)
      rw [used_ctz hx h64] at this
      cases this
    · omega

theorem norun_max {b : Nat → Nat} {i n : Nat} (hn : 1 ≤ n) (hno : NoRun (bt b) (64 * i) n) (h : b i = 18446744073709551615) : NoRun (bt b) (64 * (i + 1)) n := by
  intro k ⟨h1, h2⟩
  by_cases hle : k + n ≤ 64 * i
  · exact hno k ⟨hle, h2⟩
  · have := h2 (k + n - 1) (by omega) (by omega)
    rw [used_max h (by omega) (by omega)] at this
    cases this

theorem norun_large {b : Nat → Nat} {i e n : Nat} (hn : 65 ≤ n) (hx : b i < 18446744073709551616) (ht : IsTail (bt b) (64 * i) e) (hno : NoRun (bt b) (64 * i) n) (h : e + Lib.ctz 64 (b i) < n) : NoRun (bt b) (64 * (i + 1)) n := by
  intro k hf
  have := no_cross hx ht hno h (.inr (Nat.le_refl _)) hf
  have := hf.1
  omega

theorem tail_lt {u : Nat → Bool} {L e n : Nat} (ht : IsTail u L e) (hno : NoRun u L n) : e < n := by
  apply Nat.lt_of_not_le
  intro hle
  have := ht.1
  exact hno (L - e) ⟨by omega, ht.2.1.mono (by omega) (by omega)⟩
theorem tail_from_zero {b : Nat → Nat} {i : Nat} (hx : b i < 18446744073709551616) (ht : IsTail (bt b) (64 * i) 0) : IsTail (bt b) (64 * (i + 1)) (clz (b i)) := by
  by_cases h0 : b i = 0
  · have := tail_add h0 ht
    rwa [h0, clz_zero]
  · exact tail_clz hx h0

/-- the first n bits 1 of c in a row begin at r -/
def BitRun (c n r : Nat) : Prop :=
  (r < 64 ∧ (∀ j, j < n → c.testBit (r + j) = true) ∧ ∀ k, k < r → ¬ ∀ j, j < n → c.testBit (k + j) = true) ∨ (r = 64 ∧ ∀ k, k < 64 → ¬ ∀ j, j < n → c.testBit (k + j) = true)

theorem norun_small {b : Nat → Nat} {i e n : Nat} (hn : 1 ≤ n) (hx : b i < 18446744073709551616) (ht : IsTail (bt b) (64 * i) e) (hno : NoRun (bt b) (64 * i) n) (h : e + Lib.ctz 64 (b i) < n)
    (hr : BitRun (18446744073709551615 - b i) n 64) : NoRun (bt b) (64 * (i + 1)) n := by
  intro k hf
  have hk := no_cross hx ht hno h (.inr (Nat.le_refl _)) hf
  have hl := hf.1
  rcases hr with ⟨h1, _⟩ | ⟨_, h2⟩
  · omega
  · refine h2 (k - 64 * i) (by omega) fun j hj => ?_
    have := hf.2 (k + j) (by omega) (by omega)
    rw [bt_in (i := i) (by omega) (by omega)] at this
    rw [tb_not hx, show k - 64 * i + j = k + j - 64 * i from by omega, this]
    simp; omega

theorem first_inside {b : Nat → Nat} {i e n r : Nat} (hi : i < 8) (hn : 1 ≤ n) (hn2 : n ≤ 64) (hx : b i < 18446744073709551616) (ht : IsTail (bt b) (64 * i) e) (hno : NoRun (bt b) (64 * i) n) (h : e + Lib.ctz 64 (b i) < n)
    (hr : BitRun (18446744073709551615 - b i) n r) (hlt : r < 64) : 64 * i + r < 512 ∧ IsFirst (bt b) 512 n (64 * i + r) := by
  rcases hr with ⟨_, h1, h2⟩ | ⟨h1, _⟩
  · have hb : ∀ j, j < n → r + j < 64 ∧ (b i).testBit (r + j) = false := by
      intro j hj
      have := h1 j hj
      rw [tb_not hx] at this
      simpa using this
    have hl := (hb (n - 1) (by omega)).1
    refine ⟨by omega, .inl ⟨by omega, ⟨by omega, fun k a c => ?_⟩, fun k hk hf => ?_⟩⟩
    · rw [bt_in (i := i) (by omega) (by omega), show k - 64 * i = r + (k - 64 * i - r) from by omega]
      exact (hb _ (by omega)).2
    · have hk2 := no_cross hx ht hno h (.inl (by omega)) hf
      refine h2 (k - 64 * i) (by omega) fun j hj => ?_
      have := hf.2 (k + j) (by omega) (by omega)
      rw [bt_in (i := i) (by omega) (by omega)] at this
      rw [tb_not hx, show k - 64 * i + j = k + j - 64 * i from by omega, this]
      simp; omega
  · omega

/-- bit i of y says whether m bits of c in a row, from i on, are 1 -/
def Rows1 (c m y : Nat) : Prop := y < 18446744073709551616 ∧ ∀ i, y.testBit i = true ↔ ∀ j, j < m → c.testBit (i + j) = true

theorem Rows1.one {c : Nat} (hc : c < 18446744073709551616) : Rows1 c 1 c :=
  ⟨hc, fun i => ⟨fun h j hj => by rwa [show i + j = i from by omega], fun h => h 0 (by omega)⟩⟩
theorem Rows1.step {c m y : Nat} (h : Rows1 c m y) {s : Nat} (hs : s ≤ m) : Rows1 c (m + s) (y &&& y / 2 ^ s) := by
  refine ⟨Nat.lt_of_le_of_lt Nat.and_le_left h.1, fun i => ?_⟩
  rw [Nat.testBit_and, Nat.testBit_div_two_pow, Bool.and_eq_true, h.2, h.2]
  refine ⟨fun ⟨h1, h2⟩ j hj => ?_, fun hh => ⟨fun j hj => hh j (by omega), fun j hj => ?_⟩⟩
  · by_cases hlt : j < m
    · exact h1 j hlt
    · have := h2 (j - s) (by omega)
      rwa [show i + s + (j - s) = i + j from by omega] at this
  · rw [Nat.add_assoc]; exact hh _ (by omega)
theorem Rows1.ctz {c n y : Nat} (h : Rows1 c n y) : BitRun c n (Lib.ctz 64 y) := by
  by_cases h0 : y = 0
  · subst h0
    refine .inr ⟨rfl, fun k _ hk => ?_⟩
    have := (h.2 k).2 hk
    simp at this
  · obtain ⟨h1, h2, h3⟩ := ctz_spec h0 h.1
    refine .inl ⟨h1, (h.2 _).1 h2, fun k hk hh => ?_⟩
    have := (h.2 k).2 hh
    rw [h3 k hk] at this
    cases this
theorem Rows1.zero {c m n : Nat} (h : Rows1 c m 0) (hn : m ≤ n) : BitRun c n 64 := by
  refine .inr ⟨rfl, fun k _ hk => ?_⟩
  have := (h.2 k).2 fun j hj => hk j (by omega)
  simp at this
theorem BitRun.le {c n r : Nat} (h : BitRun c n r) : r ≤ 64 := by rcases h with ⟨h, _⟩ | ⟨h, _⟩ <;> omega
end Go.Proofs.YtkocngnpkfnblaaDoor
