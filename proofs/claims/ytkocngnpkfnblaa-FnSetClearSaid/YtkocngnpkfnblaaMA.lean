/- seats: P D. Plain facts on words of 64 bits and on runs of free pages; no program in sight. -/
import Derived.Lib.TrailingZeros
import Derived.Lib.BitFns
namespace Go.Proofs.Ytkocngnpkfnblaa
open Go

/-! ## words -/

theorem tb_hi {x i : Nat} (h : x < 2 ^ 64) (hi : 64 ≤ i) : x.testBit i = false :=
  Nat.testBit_lt_two_pow (Nat.lt_of_lt_of_le h (Nat.pow_le_pow_right (by decide) hi))

theorem word_ext {x y : Nat} (hx : x < 2 ^ 64) (hy : y < 2 ^ 64) (h : ∀ i, i < 64 → x.testBit i = y.testBit i) : x = y := by
  apply Nat.eq_of_testBit_eq
  intro i
  by_cases hi : i < 64
  · exact h i hi
  · rw [tb_hi hx (by omega), tb_hi hy (by omega)]

theorem tb_ones (n i : Nat) : (2 ^ n - 1).testBit i = decide (i < n) := Nat.testBit_two_pow_sub_one n i

theorem tb_not {x : Nat} (h : x < 2 ^ 64) (i : Nat) : (18446744073709551615 - x).testBit i = (decide (i < 64) && !x.testBit i) := by
  have := Nat.testBit_two_pow_sub_succ h i
  rwa [show 2 ^ 64 - (x + 1) = 18446744073709551615 - x from by omega] at this

theorem eq_zero_of_tb {x : Nat} (h : x < 2 ^ 64) (hb : ∀ i, i < 64 → x.testBit i = false) : x = 0 :=
  word_ext h (by decide) fun i hi => by rw [hb i hi]; simp

theorem eq_max_of_tb {x : Nat} (h : x < 2 ^ 64) (hb : ∀ i, i < 64 → x.testBit i = true) : x = 18446744073709551615 :=
  word_ext h (by decide) fun i hi => by
    rw [hb i hi]
    have := tb_ones 64 i
    simp only [show (2 : Nat) ^ 64 - 1 = 18446744073709551615 from rfl] at this
    rw [this]; simp [hi]

theorem tb_max {i : Nat} (hi : i < 64) : (18446744073709551615 : Nat).testBit i = true := by
  have := tb_ones 64 i
  simp only [show (2 : Nat) ^ 64 - 1 = 18446744073709551615 from rfl] at this
  rw [this]; simp [hi]

/-- the number of zeros at the low end -/
theorem ctz_zero : Lib.ctz 64 0 = 64 := rfl

theorem ctz_spec {x : Nat} (h0 : x ≠ 0) (h : x < 2 ^ 64) : Lib.ctz 64 x < 64 ∧ x.testBit (Lib.ctz 64 x) = true ∧ ∀ j, j < Lib.ctz 64 x → x.testBit j = false := by
  obtain ⟨m, hm, hk⟩ := Lib.ctzFrom_spec 64 x (by omega) h
  have e : Lib.ctz 64 x = Lib.ctzFrom 64 x := if_neg h0
  rw [e]
  generalize Lib.ctzFrom 64 x = k at *
  subst hm
  refine ⟨hk, ?_, fun j hj => ?_⟩
  · rw [Nat.testBit_two_pow_mul]; simp
  · rw [Nat.testBit_two_pow_mul]; simp; omega

theorem ctz_le (x : Nat) (h : x < 2 ^ 64) : Lib.ctz 64 x ≤ 64 := by
  by_cases h0 : x = 0
  · subst h0; exact Nat.le_refl _
  · exact Nat.le_of_lt (ctz_spec h0 h).1

theorem ctz_low {x : Nat} (h : x < 2 ^ 64) {j : Nat} (hj : j < Lib.ctz 64 x) : x.testBit j = false := by
  by_cases h0 : x = 0
  · subst h0; simp
  · exact (ctz_spec h0 h).2.2 j hj

theorem ctz_at {x : Nat} (h : x < 2 ^ 64) (hj : Lib.ctz 64 x < 64) : x.testBit (Lib.ctz 64 x) = true := by
  by_cases h0 : x = 0
  · subst h0; rw [ctz_zero] at hj; omega
  · exact (ctz_spec h0 h).2.1

theorem ctz_ge {x : Nat} (h : x < 2 ^ 64) {n : Nat} (hn : n ≤ 64) (hz : ∀ j, j < n → x.testBit j = false) : n ≤ Lib.ctz 64 x := by
  apply Nat.le_of_not_lt
  intro hlt
  have := ctz_at h (by omega)
  rw [hz _ hlt] at this
  cases this

theorem bitLen_spec : ∀ (f x : Nat), x < 2 ^ f → x < 2 ^ Lib.bitLenAux f x ∧ (x ≠ 0 → 1 ≤ Lib.bitLenAux f x ∧ x.testBit (Lib.bitLenAux f x - 1) = true)
  | 0, x, h => by
    have : x = 0 := by simpa using h
    subst this
    simp [Lib.bitLenAux]
  | f + 1, x, h => by
    unfold Lib.bitLenAux
    by_cases h0 : x = 0
    · subst h0; simp
    · rw [if_neg h0]
      have ih := bitLen_spec f (x / 2) (by rw [Nat.pow_succ] at h; omega)
      refine ⟨?_, fun _ => ⟨by omega, ?_⟩⟩
      · rw [Nat.add_comm, Nat.pow_succ]; have := ih.1; omega
      · rw [show 1 + Lib.bitLenAux f (x / 2) - 1 = Lib.bitLenAux f (x / 2) from by omega]
        by_cases h1 : x / 2 = 0
        · have hx1 : x = 1 := by omega
          subst hx1
          have : Lib.bitLenAux f (1 / 2) = 0 := by cases f <;> simp [Lib.bitLenAux]
          rw [this]; decide
        · obtain ⟨hl, ht⟩ := ih.2 h1
          obtain ⟨l, hl'⟩ : ∃ l, Lib.bitLenAux f (x / 2) = l + 1 := ⟨Lib.bitLenAux f (x / 2) - 1, by omega⟩
          rw [hl'] at ht ⊢
          rw [Nat.testBit_succ]
          simpa using ht

/-- the number of zeros at the high end -/
def clz (x : Nat) : Nat := 64 - Lib.bitLen x

theorem clz_zero : clz 0 = 64 := by decide
theorem clz_le (x : Nat) : clz x ≤ 64 := by unfold clz; omega
theorem clz_spec {x : Nat} (h : x < 2 ^ 64) : (∀ j, 64 - clz x ≤ j → x.testBit j = false) ∧ (x ≠ 0 → clz x < 64 ∧ x.testBit (63 - clz x) = true) := by
  obtain ⟨h1, h2⟩ := bitLen_spec 64 x h
  have hle : Lib.bitLen x ≤ 64 := Lib.bitLen_le x 64 (by omega) h
  unfold clz
  refine ⟨fun j hj => ?_, fun h0 => ?_⟩
  · apply Nat.testBit_lt_two_pow
    refine Nat.lt_of_lt_of_le h1 (Nat.pow_le_pow_right (by decide) ?_)
    show Lib.bitLen x ≤ j
    omega
  · obtain ⟨h3, h4⟩ := h2 h0
    change 1 ≤ Lib.bitLen x at h3
    change x.testBit (Lib.bitLen x - 1) = true at h4
    refine ⟨by omega, ?_⟩
    rwa [show 63 - (64 - Lib.bitLen x) = Lib.bitLen x - 1 from by omega]

theorem clz_high {x : Nat} (h : x < 2 ^ 64) {j : Nat} (hj : 64 - clz x ≤ j) : x.testBit j = false := (clz_spec h).1 j hj
theorem clz_at {x : Nat} (h : x < 2 ^ 64) (hc : clz x < 64) : x.testBit (63 - clz x) = true := by
  by_cases h0 : x = 0
  · subst h0; rw [clz_zero] at hc; omega
  · exact ((clz_spec h).2 h0).2
theorem clz_ge {x : Nat} (h : x < 2 ^ 64) {n : Nat} (hn : n ≤ 64) (hz : ∀ j, 64 - n ≤ j → j < 64 → x.testBit j = false) : n ≤ clz x := by
  apply Nat.le_of_not_lt
  intro hlt
  have := clz_at h (by omega)
  rw [hz _ (by omega) (by omega)] at this
  cases this

/-! ## pages -/

/-- page i of the words b is in use -/
def bt (b : Nat → Nat) (i : Nat) : Bool := (b (i / 64)).testBit (i % 64)

theorem bt_word (b : Nat → Nat) (w j : Nat) (hj : j < 64) : bt b (64 * w + j) = (b w).testBit j := by
  unfold bt
  rw [show (64 * w + j) / 64 = w from by omega, show (64 * w + j) % 64 = j from by omega]

theorem words_ext {b c : Nat → Nat} {n : Nat} (hb : ∀ w, w < n → b w < 2 ^ 64) (hc : ∀ w, w < n → c w < 2 ^ 64)
    (h : ∀ i, i < 64 * n → bt b i = bt c i) (w : Nat) (hw : w < n) : b w = c w :=
  word_ext (hb w hw) (hc w hw) fun i hi => by
    have := h (64 * w + i) (by omega)
    rwa [bt_word b w i hi, bt_word c w i hi] at this

/-- pages i to i+n-1 are free -/
def Clear (u : Nat → Bool) (i n : Nat) : Prop := ∀ k, i ≤ k → k < i + n → u k = false
/-- n pages from i on are free, within L pages -/
def FreeAt (u : Nat → Bool) (L i n : Nat) : Prop := i + n ≤ L ∧ Clear u i n

theorem Clear.mono {u : Nat → Bool} {i n i' n' : Nat} (h : Clear u i n) (h1 : i ≤ i') (h2 : i' + n' ≤ i + n) : Clear u i' n' :=
  fun k a b => h k (by omega) (by omega)
theorem Clear.join {u : Nat → Bool} {i n j m : Nat} (h : Clear u i n) (h' : Clear u j m) (hj : j ≤ i + n) (_hi : i ≤ j) {t : Nat} (ht : i + t = j + m ∨ i + t ≤ i + n) : Clear u i t := by
  intro k a b
  by_cases hk : k < i + n
  · exact h k a hk
  · exact h' k (by omega) (by omega)
theorem Clear.zero (u : Nat → Bool) (i : Nat) : Clear u i 0 := fun k a b => by omega

def IsFirst (u : Nat → Bool) (L n r : Nat) : Prop :=
  (r < L ∧ FreeAt u L r n ∧ ∀ k, k < r → ¬ FreeAt u L k n) ∨ (r = L ∧ ∀ k, k < L → ¬ FreeAt u L k n)

theorem IsFirst.le {u : Nat → Bool} {L n r : Nat} (h : IsFirst u L n r) : r ≤ L := by
  rcases h with ⟨h, _⟩ | ⟨h, _⟩ <;> omega

theorem IsFirst.unique {u : Nat → Bool} {L n r r' : Nat} (h : IsFirst u L n r) (h' : IsFirst u L n r') : r = r' := by
  rcases h with ⟨h1, h2, h3⟩ | ⟨h1, h3⟩ <;> rcases h' with ⟨h1', h2', h3'⟩ | ⟨h1', h3'⟩
  · rcases Nat.lt_trichotomy r r' with hlt | he | hlt
    · exact absurd h2 (h3' _ hlt)
    · exact he
    · exact absurd h2' (h3 _ hlt)
  · exact absurd h2 (h3' _ h1)
  · exact absurd h2' (h3 _ h1')
  · omega

/-- from i on, r pages are free, up to the first one in use -/
def IsRun (u : Nat → Bool) (L i r : Nat) : Prop := i + r ≤ L ∧ Clear u i r ∧ (i + r < L → u (i + r) = true)
/-- c pages are free at the end -/
def IsTail (u : Nat → Bool) (L c : Nat) : Prop := c ≤ L ∧ Clear u (L - c) c ∧ (c < L → u (L - 1 - c) = true)
/-- m is the length of the longest run -/
def IsMost (u : Nat → Bool) (L m : Nat) : Prop := (∃ i, FreeAt u L i m) ∧ ∀ i n, FreeAt u L i n → n ≤ m
def IsSum (u : Nat → Bool) (L s m e : Nat) : Prop := IsRun u L 0 s ∧ IsMost u L m ∧ IsTail u L e

theorem IsRun.unique {u : Nat → Bool} {L i r r' : Nat} (h : IsRun u L i r) (h' : IsRun u L i r') : r = r' := by
  obtain ⟨a, b, c⟩ := h
  obtain ⟨a', b', c'⟩ := h'
  rcases Nat.lt_trichotomy r r' with hlt | he | hlt
  · have := c (by omega)
    rw [b' (i + r) (by omega) (by omega)] at this
    cases this
  · exact he
  · have := c' (by omega)
    rw [b (i + r') (by omega) (by omega)] at this
    cases this
theorem IsTail.unique {u : Nat → Bool} {L r r' : Nat} (h : IsTail u L r) (h' : IsTail u L r') : r = r' := by
  obtain ⟨a, b, c⟩ := h
  obtain ⟨a', b', c'⟩ := h'
  rcases Nat.lt_trichotomy r r' with hlt | he | hlt
  · have := c (by omega)
    rw [b' (L - 1 - r) (by omega) (by omega)] at this
    cases this
  · exact he
  · have := c' (by omega)
    rw [b (L - 1 - r') (by omega) (by omega)] at this
    cases this
theorem IsMost.unique {u : Nat → Bool} {L r r' : Nat} (h : IsMost u L r) (h' : IsMost u L r') : r = r' := by
  obtain ⟨⟨i, hi⟩, a⟩ := h
  obtain ⟨⟨j, hj⟩, b⟩ := h'
  have := a j r' hj
  have := b i r hi
  omega
theorem IsSum.unique {u : Nat → Bool} {L s m e s' m' e' : Nat} (h : IsSum u L s m e) (h' : IsSum u L s' m' e') : s = s' ∧ m = m' ∧ e = e' :=
  ⟨h.1.unique h'.1, h.2.1.unique h'.2.1, h.2.2.unique h'.2.2⟩

/-- how many of n pages from i on are in use -/
def cnt (u : Nat → Bool) (i : Nat) : Nat → Nat
  | 0 => 0
  | n + 1 => cnt u i n + if u (i + n) then 1 else 0

theorem cnt_le (u : Nat → Bool) (i n : Nat) : cnt u i n ≤ n := by
  induction n with
  | zero => exact Nat.le_refl _
  | succ n ih => unfold cnt; split <;> omega
theorem cnt_add (u : Nat → Bool) (i m n : Nat) : cnt u i (m + n) = cnt u i m + cnt u (i + m) n := by
  induction n with
  | zero => rfl
  | succ n ih =>
    rw [← Nat.add_assoc]
    show cnt u i (m + n) + _ = _
    rw [ih]
    show _ = cnt u i m + (cnt u (i + m) n + _)
    rw [Nat.add_assoc i m n]
    omega
theorem cnt_congr {u v : Nat → Bool} {i j n : Nat} (h : ∀ k, k < n → u (i + k) = v (j + k)) : cnt u i n = cnt v j n := by
  induction n with
  | zero => rfl
  | succ n ih =>
    show cnt u i n + _ = cnt v j n + _
    rw [ih fun k hk => h k (by omega), h n (by omega)]
theorem cnt_none {u : Nat → Bool} {i n : Nat} (h : ∀ k, k < n → u (i + k) = false) : cnt u i n = 0 := by
  induction n with
  | zero => rfl
  | succ n ih =>
    show cnt u i n + _ = 0
    rw [ih fun k hk => h k (by omega), h n (by omega)]
    rfl
theorem cnt_all {u : Nat → Bool} {i n : Nat} (h : ∀ k, k < n → u (i + k) = true) : cnt u i n = n := by
  induction n with
  | zero => rfl
  | succ n ih =>
    show cnt u i n + _ = n + 1
    rw [ih fun k hk => h k (by omega), h n (by omega)]
    rfl

end Go.Proofs.Ytkocngnpkfnblaa
