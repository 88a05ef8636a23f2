/- seats: D. Plain facts on the summary of a chunk, word by word: first the runs that reach a word's border, then those between two used pages of a word. -/
import Derived.Test.YtkocngnpkfnblaaDoorMF
namespace Go.Proofs.YtkocngnpkfnblaaDoor
open Go

/-! ## the runs that reach a word's border -/

/-- s is the first used page below L, or the greatest number where there is none -/
def Head (u : Nat → Bool) (L s : Nat) : Prop := (s = 18446744073709551615 ∧ ∀ k, k < L → u k = false) ∨ (s < L ∧ u s = true ∧ ∀ k, k < s → u k = false)
/-- a run below word i is at most mo long, or lies in the last c pages, or inside a word -/
def Brd (b : Nat → Nat) (i mo c : Nat) : Prop := ∀ j n, FreeAt (bt b) (64 * i) j n → n ≤ mo ∨ 64 * i - c ≤ j ∨ ∃ q, q < i ∧ 64 * q < j ∧ j + n < 64 * (q + 1)
/-- there is a run of mo pages -/
def Att (u : Nat → Bool) (L mo : Nat) : Prop := ∃ j, FreeAt u L j mo

theorem Att.grow {u : Nat → Bool} {L L' mo : Nat} (h : Att u L mo) (hL : L ≤ L') : Att u L' mo := by
  obtain ⟨j, h1, h2⟩ := h; exact ⟨j, by omega, h2⟩
theorem Att.zero (u : Nat → Bool) (L : Nat) : Att u L 0 := ⟨0, by omega, Clear.zero _ _⟩
theorem Att.tail {u : Nat → Bool} {L c : Nat} (h : IsTail u L c) : Att u L c := ⟨L - c, by have := h.1; omega, h.2.1⟩
theorem Att.max {u : Nat → Bool} {L a c : Nat} (h : Att u L a) (h' : Att u L c) : Att u L (max a c) := by
  rcases Nat.le_total a c with hle | hle
  · rwa [Nat.max_eq_right hle]
  · rwa [Nat.max_eq_left hle]

theorem Brd.zero (b : Nat → Nat) (mo c : Nat) : Brd b 0 mo c := fun j n h => .inl (by have := h.1; omega)
theorem Brd.free {b : Nat → Nat} {i mo c : Nat} (h : Brd b i mo c) (ht : IsTail (bt b) (64 * i) c) (_h0 : b i = 0) : Brd b (i + 1) mo (c + 64) := by
  obtain ⟨t1, t2, t3⟩ := ht
  intro j n hf
  by_cases hle : j + n ≤ 64 * i
  · rcases h j n ⟨hle, hf.2⟩ with h | h | ⟨q, h1, h2⟩
    · exact .inl h
    · exact .inr (.inl (by omega))
    · exact .inr (.inr ⟨q, by omega, h2⟩)
  · refine .inr (.inl ?_)
    apply Nat.le_of_not_lt
    intro hlt
    have := hf.2 (64 * i - 1 - c) (by omega) (by omega)
    rw [t3 (by omega)] at this
    cases this
theorem Brd.some {b : Nat → Nat} {i mo c : Nat} (h : Brd b i mo c) (ht : IsTail (bt b) (64 * i) c) (hx : b i < 18446744073709551616) (h0 : b i ≠ 0) :
    Brd b (i + 1) (max mo (c + Lib.ctz 64 (b i))) (clz (b i)) := by
  obtain ⟨t1, t2, t3⟩ := ht
  have hc := (ctz_spec h0 hx).1
  have hl := (tail_clz (i := i) hx h0)
  obtain ⟨l1, l2, l3⟩ := hl
  have m1 := Nat.le_max_left mo (c + Lib.ctz 64 (b i))
  have m2 := Nat.le_max_right mo (c + Lib.ctz 64 (b i))
  generalize max mo (c + Lib.ctz 64 (b i)) = M at *
  have hcl := (clz_spec hx).2 h0
  intro j n hf
  have hfl := hf.1
  by_cases hle : j + n ≤ 64 * i
  · rcases h j n ⟨hle, hf.2⟩ with h | h | ⟨q, h1, h2⟩
    · exact .inl (by omega)
    · exact .inl (by omega)
    · exact .inr (.inr ⟨q, by omega, h2⟩)
  · by_cases hj : j ≤ 64 * i
    · refine .inl ?_
      have hk : 64 * i - c ≤ j := by
        apply Nat.le_of_not_lt
        intro hlt
        have := hf.2 (64 * i - 1 - c) (by omega) (by omega)
        rw [t3 (by omega)] at this
        cases this
      have hk2 : j + n ≤ 64 * i + Lib.ctz 64 (b i) := by
        apply Nat.le_of_not_lt
        intro hlt
        have := hf.2 (64 * i + Lib.ctz 64 (b i)) (by omega) (by omega)
        rw [used_ctz hx hc] at this
        cases this
      omega
    · by_cases he : j + n < 64 * (i + 1)
      · exact .inr (.inr ⟨i, by omega, by omega, he⟩)
      · refine .inr (.inl ?_)
        apply Nat.le_of_not_lt
        intro hlt
        have := hf.2 (64 * (i + 1) - 1 - clz (b i)) (by omega) (by omega)
        rw [l3 (by omega)] at this
        cases this
theorem att_border {b : Nat → Nat} {i c : Nat} (ht : IsTail (bt b) (64 * i) c) (hx : b i < 18446744073709551616) : Att (bt b) (64 * (i + 1)) (c + Lib.ctz 64 (b i)) := by
  obtain ⟨h1, h2, h3⟩ := ht
  have hc := ctz_le (b i) hx
  refine ⟨64 * i - c, by omega, fun k a e => ?_⟩
  by_cases hlt : k < 64 * i
  · exact h2 k (by omega) (by omega)
  · exact clear_ctz hx (by omega) (by omega)

theorem Head.free {b : Nat → Nat} {i s : Nat} (h : Head (bt b) (64 * i) s) (h0 : b i = 0) : Head (bt b) (64 * (i + 1)) s := by
  rcases h with ⟨h1, h2⟩ | ⟨h1, h2, h3⟩
  · refine .inl ⟨h1, fun k hk => ?_⟩
    by_cases hlt : k < 64 * i
    · exact h2 k hlt
    · exact clear_zero h0 (by omega) hk
  · exact .inr ⟨by omega, h2, h3⟩
theorem Head.old {u : Nat → Bool} {L L' s : Nat} (h : Head u L s) (hs : s ≠ 18446744073709551615) (hL : L ≤ L') : Head u L' s := by
  rcases h with ⟨h1, _⟩ | ⟨h1, h2, h3⟩
  · exact absurd h1 hs
  · exact .inr ⟨by omega, h2, h3⟩
theorem Head.tail {u : Nat → Bool} {L s c : Nat} (h : Head u L s) (hL : L ≤ 512) (hs : s = 18446744073709551615) (ht : IsTail u L c) : c = L := by
  rcases h with ⟨_, h2⟩ | ⟨h1, _⟩
  · obtain ⟨t1, t2, t3⟩ := ht
    apply Classical.byContradiction
    intro hc
    have := t3 (by omega)
    rw [h2 _ (by omega)] at this
    cases this
  · omega
theorem Head.new {b : Nat → Nat} {i s c : Nat} (hi : i < 8) (h : Head (bt b) (64 * i) s) (hs : s = 18446744073709551615) (ht : IsTail (bt b) (64 * i) c) (hx : b i < 18446744073709551616) (h0 : b i ≠ 0) :
    Head (bt b) (64 * (i + 1)) (c + Lib.ctz 64 (b i)) := by
  have hc := h.tail (by omega) hs ht
  obtain ⟨c1, c2, c3⟩ := ctz_spec h0 hx
  rcases h with ⟨_, h2⟩ | ⟨h1, _⟩
  · refine .inr ⟨by omega, ?_, fun k hk => ?_⟩
    · rw [hc]; exact used_ctz hx c1
    · by_cases hlt : k < 64 * i
      · exact h2 k hlt
      · exact clear_ctz hx (by omega) (by omega)
  · omega
theorem Head.run {u : Nat → Bool} {s : Nat} (h : Head u 512 s) (hs : s ≠ 18446744073709551615) : IsRun u 512 0 s := by
  rcases h with ⟨h1, _⟩ | ⟨h1, h2, h3⟩
  · exact absurd h1 hs
  · exact ⟨by omega, fun k _ a => h3 k (by omega), fun _ => by rw [Nat.zero_add]; exact h2⟩
theorem Head.none {u : Nat → Bool} {s : Nat} (h : Head u 512 s) (hs : s = 18446744073709551615) : IsSum u 512 512 512 512 := by
  rcases h with ⟨_, h2⟩ | ⟨h1, _⟩
  · have hc : Clear u 0 512 := fun k _ a => h2 k (by omega)
    exact ⟨⟨by omega, hc, by omega⟩, ⟨⟨0, by omega, hc⟩, fun i n hf => by have := hf.1; omega⟩, ⟨by omega, hc, by omega⟩⟩
  · omega

/-! ## the runs between two used pages of a word -/

/-- a run is at most mo long, or lies inside a word from word i on -/
def Ins (b : Nat → Nat) (i mo : Nat) : Prop := ∀ j n, FreeAt (bt b) 512 j n → n ≤ mo ∨ ∃ q, i ≤ q ∧ q < 8 ∧ 64 * q < j ∧ j + n < 64 * (q + 1)

theorem Brd.ins {b : Nat → Nat} {mo c : Nat} (h : Brd b 8 mo c) (ht : IsTail (bt b) 512 c) : Ins b 0 (max mo c) := by
  have m1 := Nat.le_max_left mo c
  have m2 := Nat.le_max_right mo c
  intro j n hf
  have := hf.1
  have := ht.1
  rcases h j n hf with h | h | ⟨q, h1, h2⟩
  · exact .inl (by omega)
  · exact .inl (by omega)
  · exact .inr ⟨q, by omega, h1, h2⟩
theorem Ins.most {b : Nat → Nat} {i mo : Nat} (h : Ins b i mo) (hm : 62 ≤ mo ∨ 8 ≤ i) (ha : Att (bt b) 512 mo) : IsMost (bt b) 512 mo :=
  ⟨ha, fun j n hf => by rcases h j n hf with h | ⟨q, h1, h2, h3, h4⟩ <;> omega⟩

/-- above bit a of x, n zeros, and a one further up -/
def Gap (x a n : Nat) : Prop := x.testBit a = true ∧ (∀ k, a < k → k ≤ a + n → x.testBit k = false) ∧ ∃ c, a + n < c ∧ x.testBit c = true
/-- x is z with the m bits below each one set -/
def Fil (x0 z x S m : Nat) : Prop := z = x0 / 2 ^ S ∧ x < 18446744073709551616 ∧ ∀ i, x.testBit i = true ↔ ∃ j, j ≤ m ∧ z.testBit (i + j) = true
/-- the gaps of x0 are at most m wide, or lie in z -/
def Rest (x0 z m : Nat) : Prop := ∀ a n, Gap x0 a n → n ≤ m ∨ ∃ a', Gap z a' n
def Gaps (x0 m : Nat) : Prop := ∀ a n, Gap x0 a n → n ≤ m
def Closed (x : Nat) : Prop := ∀ a c, a < c → x.testBit c = true → x.testBit a = true

theorem split_ones {x : Nat} (hx : x < 18446744073709551616) (h : x ≠ 18446744073709551615) :
    x = 2 ^ (Lib.ctz 64 (18446744073709551615 - x) + 1) * (x / 2 ^ (Lib.ctz 64 (18446744073709551615 - x) + 1)) + (2 ^ Lib.ctz 64 (18446744073709551615 - x) - 1) := by
  obtain ⟨h1, h2, h3⟩ := not_max hx h
  generalize Lib.ctz 64 (18446744073709551615 - x) = t at *
  have e : x % 2 ^ (t + 1) = 2 ^ t - 1 := by
    apply Nat.eq_of_testBit_eq
    intro i
    rw [Nat.testBit_mod_two_pow, tb_ones]
    rcases Nat.lt_trichotomy i t with hlt | rfl | hlt
    · rw [h3 i hlt, Bool.and_true]; exact decide_eq_decide.2 (by omega)
    · rw [h2, Bool.and_false, eq_comm]; exact decide_eq_false (by omega)
    · rw [decide_eq_false (by omega), decide_eq_false (by omega), Bool.false_and]
  rw [← e, Nat.div_add_mod]

theorem succ_bits {x : Nat} (hx : x < 18446744073709551616) (h : x ≠ 18446744073709551615) (i : Nat) :
    ((x + 1) % 18446744073709551616).testBit i = if i < Lib.ctz 64 (18446744073709551615 - x) then false else if i = Lib.ctz 64 (18446744073709551615 - x) then true else x.testBit i := by
  have e := split_ones hx h
  generalize Lib.ctz 64 (18446744073709551615 - x) = t at *
  have hp := Nat.two_pow_pos t
  have hp2 : 2 ^ t < 2 ^ (t + 1) := by rw [Nat.pow_succ]; omega
  have e2 : x + 1 = 2 ^ (t + 1) * (x / 2 ^ (t + 1)) + 2 ^ t := by omega
  rw [Nat.mod_eq_of_lt (by omega), e2, Nat.testBit_two_pow_mul_add _ hp2]
  rcases Nat.lt_trichotomy i t with hlt | rfl | hlt
  · rw [if_pos (by omega), if_pos hlt, Nat.testBit_two_pow]; simp; omega
  · rw [if_pos (by omega), if_neg (by omega), if_pos rfl, Nat.testBit_two_pow_self]
  · rw [if_neg (by omega), if_neg (by omega), if_neg (by omega), Nat.testBit_div_two_pow]
    congr 1; omega

theorem flat_closed {x : Nat} (hx : x < 18446744073709551616) (h : x &&& ((x + 1) % 18446744073709551616) = 0) : Closed x := by
  intro a c hac hc
  have c64 : c < 64 := by
    apply Nat.lt_of_not_le
    intro hle
    rw [tb_hi hx hle] at hc
    cases hc
  by_cases hm : x = 18446744073709551615
  · rw [hm]; exact tb_max (by omega)
  · have hb := succ_bits hx hm c
    obtain ⟨h1, h2, h3⟩ := not_max hx hm
    have h0 : (x &&& ((x + 1) % 18446744073709551616)).testBit c = false := by rw [h]; simp
    rw [Nat.testBit_and, hc, hb] at h0
    generalize Lib.ctz 64 (18446744073709551615 - x) = t at *
    by_cases hlt : c < t
    · exact h3 a (by omega)
    · by_cases he : c = t
      · subst he; rw [h2] at hc; cases hc
      · rw [if_neg hlt, if_neg he, hc] at h0; cases h0

theorem not_flat {x : Nat} (hx : x < 18446744073709551616) (h : x &&& ((x + 1) % 18446744073709551616) ≠ 0) :
    x ≠ 18446744073709551615 ∧ x / 2 ^ Lib.ctz 64 (18446744073709551615 - x) ≠ 0 := by
  have hm : x ≠ 18446744073709551615 := by
    intro hm
    rw [hm] at h
    exact h (by decide)
  refine ⟨hm, fun h0 => h ?_⟩
  apply Nat.eq_of_testBit_eq
  intro i
  rw [Nat.testBit_and, succ_bits hx hm]
  have hz : ∀ k, Lib.ctz 64 (18446744073709551615 - x) ≤ k → x.testBit k = false := by
    intro k hk
    have : (x / 2 ^ Lib.ctz 64 (18446744073709551615 - x)).testBit (k - Lib.ctz 64 (18446744073709551615 - x)) = false := by rw [h0]; simp
    rw [Nat.testBit_div_two_pow] at this
    rwa [show k - Lib.ctz 64 (18446744073709551615 - x) + Lib.ctz 64 (18446744073709551615 - x) = k from by omega] at this
  generalize Lib.ctz 64 (18446744073709551615 - x) = t at *
  by_cases hlt : i < t
  · rw [if_pos hlt]; simp
  · rw [hz i (by omega)]; simp

theorem Fil.first {x0 S : Nat} (hx : x0 < 18446744073709551616) : Fil x0 (x0 / 2 ^ S) (x0 / 2 ^ S) S 0 :=
  ⟨rfl, Nat.lt_of_le_of_lt (Nat.div_le_self _ _) hx, fun i => ⟨fun h => ⟨0, Nat.le_refl _, h⟩, fun ⟨j, h1, h2⟩ => by
    obtain rfl : j = 0 := by omega
    exact h2⟩⟩
theorem Rest.first {x0 : Nat} (hx : x0 < 18446744073709551616) (m : Nat) : Rest x0 (x0 / 2 ^ (Lib.ctz 64 x0 % 64)) m := by
  intro a n ⟨h1, h2, c, h3, h4⟩
  have h0 : x0 ≠ 0 := by intro h0; rw [h0] at h1; simp at h1
  obtain ⟨c1, c2, c3⟩ := ctz_spec h0 hx
  rw [Nat.mod_eq_of_lt c1]
  generalize Lib.ctz 64 x0 = t at *
  have ha : t ≤ a := by
    apply Nat.le_of_not_lt
    intro hlt
    rw [c3 a hlt] at h1
    cases h1
  refine .inr ⟨a - t, ?_, fun k k1 k2 => ?_, c - t, by omega, ?_⟩
  · rw [Nat.testBit_div_two_pow, show a - t + t = a from by omega]; exact h1
  · rw [Nat.testBit_div_two_pow]; exact h2 _ (by omega) (by omega)
  · rw [Nat.testBit_div_two_pow, show c - t + t = c from by omega]; exact h4
theorem Fil.fill {x0 z x S m s : Nat} (h : Fil x0 z x S m) (hs : s ≤ m + 1) : Fil x0 z (x ||| x / 2 ^ s) S (m + s) := by
  obtain ⟨h1, h2, h3⟩ := h
  refine ⟨h1, Nat.or_lt_two_pow (n := 64) h2 (Nat.lt_of_le_of_lt (Nat.div_le_self _ _) h2), fun i => ?_⟩
  rw [Nat.testBit_or, Nat.testBit_div_two_pow, Bool.or_eq_true, h3, h3]
  refine ⟨?_, ?_⟩
  · rintro (⟨j, a, c⟩ | ⟨j, a, c⟩)
    · exact ⟨j, by omega, c⟩
    · exact ⟨s + j, by omega, by rwa [← Nat.add_assoc]⟩
  · rintro ⟨j, a, c⟩
    by_cases hj : j ≤ m
    · exact .inl ⟨j, hj, c⟩
    · exact .inr ⟨j - s, by omega, by rwa [show i + s + (j - s) = i + j from by omega]⟩
theorem Fil.done {x0 z x S m M : Nat} (h : Fil x0 z x S m) (hf : x &&& ((x + 1) % 18446744073709551616) = 0) (hr : Rest x0 z M) (hm : m ≤ M) : Gaps x0 M := by
  have hc := flat_closed h.2.1 hf
  obtain ⟨_, _, h3⟩ := h
  intro a0 n hg
  rcases hr a0 n hg with h | ⟨a, g1, g2, c, g3, g4⟩
  · exact h
  · apply Nat.le_of_not_lt
    intro hlt
    have hxc : x.testBit c = true := (h3 c).2 ⟨0, by omega, g4⟩
    obtain ⟨j, j1, j2⟩ := (h3 (a + 1)).1 (hc (a + 1) c (by omega) hxc)
    rw [g2 (a + 1 + j) (by omega) (by omega)] at j2
    cases j2

/-- the next gap that is wider than all before -/
theorem Fil.next {x0 z x S m : Nat} (hx0 : x0 < 18446744073709551616) (h : Fil x0 z x S m) (hf : x &&& ((x + 1) % 18446744073709551616) ≠ 0) (hr : Rest x0 z m) {t y jj y' : Nat}
    (ht : t = Lib.ctz 64 (18446744073709551615 - x)) (hy : y = x / 2 ^ t) (hj : jj = Lib.ctz 64 y) (hy' : y' = y / 2 ^ jj) :
    t < 64 ∧ 1 ≤ jj ∧ jj < 64 ∧ y < 18446744073709551616 ∧ Fil x0 (z / 2 ^ (t + jj)) y' (S + (t + jj)) m ∧ Rest x0 (z / 2 ^ (t + jj)) (m + jj) ∧
    ∃ p, p + (m + jj) < 64 ∧ ∀ k, k < m + jj → x0.testBit (p + k) = false := by
  have hx := h.2.1
  obtain ⟨hm, hne⟩ := not_flat hx hf
  obtain ⟨h1, h2, h3⟩ := not_max hx hm
  rw [← ht] at h1 h2 h3 hne
  rw [← hy] at hne
  have hylt : y < 18446744073709551616 := by rw [hy]; exact Nat.lt_of_le_of_lt (Nat.div_le_self _ _) hx
  obtain ⟨y1, y2, y3⟩ := ctz_spec hne hylt
  rw [← hj] at y1 y2 y3
  have hyb : ∀ k, y.testBit k = x.testBit (k + t) := fun k => by rw [hy, Nat.testBit_div_two_pow]
  have hj1 : 1 ≤ jj := by
    apply Nat.le_of_not_lt
    intro hlt
    obtain rfl : jj = 0 := by omega
    rw [hyb, Nat.zero_add, h2] at y2
    cases y2
  have hmid : ∀ k, t ≤ k → k < t + jj → x.testBit k = false := fun k a c => by
    have := y3 (k - t) (by omega)
    rwa [hyb, show k - t + t = k from by omega] at this
  have hs : x.testBit (t + jj) = true := by rw [hyb] at y2; rwa [Nat.add_comm]
  obtain ⟨f1, f2, f3⟩ := h
  have hzero : ∀ k, k < m + jj → z.testBit (t + k) = false := by
    intro k hk
    cases hb : z.testBit (t + k)
    · rfl
    · exfalso
      by_cases hkj : k < jj
      · have := (f3 (t + k)).2 ⟨0, by omega, hb⟩
        rw [hmid _ (by omega) (by omega)] at this
        cases this
      · have := (f3 (t + (jj - 1))).2 ⟨k - (jj - 1), by omega, by rwa [show t + (jj - 1) + (k - (jj - 1)) = t + k from by omega]⟩
        rw [hmid _ (by omega) (by omega)] at this
        cases this
  refine ⟨h1, hj1, y1, hylt, ⟨?_, ?_, fun i => ?_⟩, ?_, S + t, ?_, fun k hk => ?_⟩
  · rw [f1, Nat.div_div_eq_div_mul, ← Nat.pow_add]
  · rw [hy']; exact Nat.lt_of_le_of_lt (Nat.div_le_self _ _) hylt
  · rw [hy', Nat.testBit_div_two_pow, hyb, f3]
    constructor
    · rintro ⟨j, a, c⟩
      exact ⟨j, a, by rw [Nat.testBit_div_two_pow]; rwa [show i + j + (t + jj) = i + jj + t + j from by omega]⟩
    · rintro ⟨j, a, c⟩
      rw [Nat.testBit_div_two_pow] at c
      exact ⟨j, a, by rwa [show i + jj + t + j = i + j + (t + jj) from by omega]⟩
  · intro a0 n hg
    rcases hr a0 n hg with h | ⟨a, g1, g2, c, g3, g4⟩
    · exact .inl (by omega)
    · by_cases hn : n ≤ m + jj
      · exact .inl hn
      · right
        have ha : x.testBit a = true := (f3 a).2 ⟨0, by omega, g1⟩
        have ha1 : x.testBit (a + 1) = false := by
          cases hb : x.testBit (a + 1)
          · rfl
          · obtain ⟨j, j1, j2⟩ := (f3 _).1 hb
            rw [g2 _ (by omega) (by omega)] at j2
            cases j2
        have hat : t ≤ a + 1 := by
          apply Nat.le_of_not_lt
          intro hlt
          rw [h3 _ hlt] at ha1
          cases ha1
        by_cases hlt : a < t
        · obtain ⟨j, j1, j2⟩ := (f3 _).1 hs
          rw [g2 _ (by omega) (by omega)] at j2
          cases j2
        · have has : t + jj ≤ a := by
            apply Nat.le_of_not_lt
            intro hlt2
            rw [hmid a (by omega) hlt2] at ha
            cases ha
          refine ⟨a - (t + jj), ?_, fun k k1 k2 => ?_, c - (t + jj), by omega, ?_⟩
          · rw [Nat.testBit_div_two_pow, show a - (t + jj) + (t + jj) = a from by omega]; exact g1
          · rw [Nat.testBit_div_two_pow]; exact g2 _ (by omega) (by omega)
          · rw [Nat.testBit_div_two_pow, show c - (t + jj) + (t + jj) = c from by omega]; exact g4
  · obtain ⟨j, j1, j2⟩ := (f3 _).1 hs
    by_cases hjm : j < m
    · rw [Nat.add_assoc, hzero _ (by omega)] at j2
      cases j2
    · obtain rfl : j = m := by omega
      rw [f1, Nat.testBit_div_two_pow] at j2
      apply Nat.lt_of_not_le
      intro hle
      rw [tb_hi hx0 (by omega)] at j2
      cases j2
  · have := hzero k hk
    rw [f1, Nat.testBit_div_two_pow] at this
    rwa [show S + t + k = t + k + S from by omega]

theorem att_inside {b : Nat → Nat} {i p m : Nat} (hi : i < 8) (hp : p + m < 64) (h : ∀ k, k < m → (b i).testBit (p + k) = false) : Att (bt b) 512 m :=
  ⟨64 * i + p, by omega, fun k a c => by
    rw [bt_in (i := i) (by omega) (by omega), show k - 64 * i = p + (k - 64 * i - p) from by omega]
    exact h _ (by omega)⟩

/-- the highest bit 1 below k -/
theorem one_below {x : Nat} : ∀ k, (∀ j, j < k → x.testBit j = false) ∨ ∃ a, a < k ∧ x.testBit a = true ∧ ∀ j, a < j → j < k → x.testBit j = false
  | 0 => .inl fun j h => by omega
  | k + 1 => by
    cases hb : x.testBit k
    · rcases one_below k with h | ⟨a, h1, h2, h3⟩
      · refine .inl fun j hj => ?_
        by_cases e : j = k
        · subst e; exact hb
        · exact h j (by omega)
      · refine .inr ⟨a, by omega, h2, fun j j1 j2 => ?_⟩
        by_cases e : j = k
        · subst e; exact hb
        · exact h3 j j1 (by omega)
    · exact .inr ⟨k, by omega, hb, fun j j1 j2 => by omega⟩

theorem Ins.step {b : Nat → Nat} {i mo mo' : Nat} (hi : i < 8) (h : Ins b i mo) (hm : mo ≤ mo') (hg : Gaps (b i) mo') : Ins b (i + 1) mo' := by
  intro j n hf
  rcases h j n hf with h1 | ⟨q, q1, q2, q3, q4⟩
  · exact .inl (by omega)
  · by_cases e : q = i
    · subst e
      left
      apply Nat.le_of_not_lt
      intro hlt
      have hz : ∀ k, j - 64 * q ≤ k → k < j - 64 * q + n → (b q).testBit k = false := fun k k1 k2 => by
        have := hf.2 (64 * q + k) (by omega) (by omega)
        rwa [bt_word b q k (by omega)] at this
      rcases one_below (x := b q) (j - 64 * q) with ha | ⟨a, a1, a2, a3⟩
      · have hf2 : FreeAt (bt b) 512 (64 * q) (j - 64 * q + n) := ⟨by omega, fun k k1 k2 => by
          rw [bt_in (i := q) (by omega) (by omega)]
          by_cases hk : k - 64 * q < j - 64 * q
          · exact ha _ hk
          · exact hz _ (by omega) (by omega)⟩
        rcases h _ _ hf2 with h1 | ⟨p, p1, p2, p3, p4⟩ <;> omega
      · rcases Classical.em (∃ c, j - 64 * q + n ≤ c ∧ (b q).testBit c = true) with ⟨c, c1, c2⟩ | hc
        · have := hg a (j - 64 * q + n - 1 - a) ⟨a2, fun k k1 k2 => by
            by_cases hk : k < j - 64 * q
            · exact a3 k k1 hk
            · exact hz k (by omega) (by omega), c, by omega, c2⟩
          omega
        · have hf2 : FreeAt (bt b) 512 j (64 * (q + 1) - j) := ⟨by omega, fun k k1 k2 => by
            rw [bt_in (i := q) (by omega) (by omega)]
            by_cases hk : k - 64 * q < j - 64 * q + n
            · exact hz _ (by omega) hk
            · cases hb : (b q).testBit (k - 64 * q)
              · rfl
              · exact absurd ⟨_, by omega, hb⟩ hc⟩
          rcases h _ _ hf2 with h1 | ⟨p, p1, p2, p3, p4⟩ <;> omega
    · exact .inr ⟨q, by omega, q2, q3, q4⟩
end Go.Proofs.YtkocngnpkfnblaaDoor
