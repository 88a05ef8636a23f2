/- seats: D. The walks of spec.Free, spec.First, spec.From. -/
import Derived.Test.YtkocngnpkfnblaaDoorWX
import Derived.Test.YtkocngnpkfnblaaDoorMF
import Derived.Test.YtkocngnpkfnblaaDoorWN
namespace Go.Proofs.YtkocngnpkfnblaaDoor
open Go.RowKit

/-- whether P holds is handed back -/
def SameB (w : World) (P : Prop) (e : Ending) (w' : World) : Prop := ∃ x : Bool, (x = true ↔ P) ∧ e = .returned (.bool x) ∧ w = w'

set_option maxRecDepth 100000 in
set_option maxHeartbeats 800000 in
theorem specFree_any (B : Nat) (v : Value) (l : List Bool) (i n : Nat) (w : World) (hi : i ≤ 1000000) (hn : n ≤ 1000000) (hr : Reads w B v l) :
    Calls Tryd.prog 31 #[v, .int .i64 (i : Int), .int .i64 (n : Int)] w (SameB w (FreeAt (at_ l) l.length i n)) := by
  obtain ⟨g, cap, rfl, hg, h1, h2, h3⟩ := hr
  unfold maxLen at h2
  have HC := Lib.hid h3
  clear h3
  generalize hL : l.length = L at *
  clear hL
  go_enter Tryd.func31, Tryd.ntmps31
  by_cases hlt : L < i + n
  · have hd : decide ((L : Int) < (i : Int) + (n : Int)) = true := by simp; omega
    go_wp2
    go_ret
    exact ⟨false, ⟨fun h => by simp at h, fun h => by have := h.1; omega⟩, rfl, rfl⟩
  · have hd : decide ((L : Int) < (i : Int) + (n : Int)) = false := by simp; omega
    go_wp2
    go_loop [7] (fun k => ∃ r : Nat, r ≤ n ∧ k = .int .i64 ((i + r : Nat) : Int) ∧ Clear (at_ l) i r) (fun k => i + n - (intOf k).toNat)
    case atStart => exact ⟨0, by omega, rfl, Clear.zero _ _⟩
    case round =>
      obtain ⟨r, hr, rfl, hcl⟩ := hrel
      have HR := Lib.hid hcl
      clear hcl
      by_cases hrn : r < n
      · have hc := HC.out (i + r) (by omega)
        cases hb : at_ l (i + r)
        · rw [hb] at hc
          have HB := Lib.hid hb
          clear hb
          go_wp2
          go_round
          case rel =>
            refine ⟨r + 1, by omega, by go_num, fun k a b => ?_⟩
            by_cases hk : k < i + r
            · exact HR.out k a hk
            · rw [show k = i + r from by omega]; exact HB.out
          case measure => simp [intOf]; omega
        · rw [hb] at hc
          have HB := Lib.hid hb
          clear hb
          go_wp2
          go_ret
          refine ⟨false, ⟨fun h => by simp at h, fun h => ?_⟩, rfl, rfl⟩
          have := h.2 (i + r) (by omega) (by omega)
          rw [HB.out] at this
          cases this
      · obtain rfl : r = n := by omega
        go_wp2
        go_ret
        exact ⟨true, ⟨fun _ => ⟨by omega, HR.out⟩, fun _ => rfl⟩, rfl, rfl⟩

/-- the first run of n free pages is told -/
def RetFirst (w : World) (l : List Bool) (n : Nat) (e : Ending) (w' : World) : Prop := ∃ r : Nat, e = .returned (.int .i64 r) ∧ IsFirst (at_ l) l.length n r ∧ w = w'

set_option maxRecDepth 100000 in
set_option maxHeartbeats 800000 in
theorem first_any (B : Nat) (v : Value) (l : List Bool) (n : Nat) (w : World) (hl : l.length ≤ 1000000) (hn : n ≤ 1000000) (hr : Reads w B v l) :
    Calls Tryd.prog 21 #[v, .int .i64 (n : Int)] w (RetFirst w l n) := by
  have HD := Lib.hid hr
  obtain ⟨g, cap, rfl, hg, h1, h2, h3⟩ := hr
  unfold maxLen at h2
  clear h3
  generalize hL : l.length = L at *
  have HL := Lib.hid hL
  clear hL
  go_enter Tryd.func21, Tryd.ntmps21
  go_wp2
  go_loop [5] (fun k => ∃ r : Nat, r ≤ L ∧ k = .int .i64 r ∧ ∀ j, j < r → ¬ FreeAt (at_ l) L j n) (fun k => L - (intOf k).toNat)
  case atStart => exact ⟨0, by omega, rfl, fun j hj => by omega⟩
  case round =>
    obtain ⟨r, hr, rfl, hno⟩ := hrel
    have HN := Lib.hid hno
    clear hno
    by_cases hlt : r < L
    · go_wp2_with fail
      refine (specFree_any B _ l r n _ (by omega) hn HD.out).mono ?_
      rintro e w1 ⟨x, hx, rfl, rfl⟩
      rw [HL.out] at hx
      have HX := Lib.hid hx
      clear hx
      cases x
      · go_wp2
        go_round
        case rel =>
          refine ⟨r + 1, by omega, by go_num, fun j hj => ?_⟩
          by_cases e : j = r
          · subst e; exact fun h => by have := HX.out.2 h; simp at this
          · exact HN.out j (by omega)
        case measure => simp [intOf]; omega
      · go_wp2
        go_ret
        exact ⟨r, rfl, .inl ⟨by rw [HL.out]; exact hlt, by rw [HL.out]; exact HX.out.1 (by simp), by rw [HL.out]; exact HN.out⟩, rfl⟩
    · obtain rfl : r = L := by omega
      go_wp2
      go_ret
      exact ⟨r, rfl, .inr ⟨HL.out.symm, by rw [HL.out]; exact HN.out⟩, rfl⟩

theorem isFirst_pg {b : Nat → Nat} {n r : Nat} (h : IsFirst (at_ (pg b 512)) 512 n r) : IsFirst (bt b) 512 n r := by
  have e : ∀ k, FreeAt (at_ (pg b 512)) 512 k n ↔ FreeAt (bt b) 512 k n := fun k =>
    ⟨fun ⟨h1, h2⟩ => ⟨h1, fun j a c => by rw [← at_pg b (n := 512) (by omega)]; exact h2 j a c⟩, fun ⟨h1, h2⟩ => ⟨h1, fun j a c => by rw [at_pg b (n := 512) (by omega)]; exact h2 j a c⟩⟩
  rcases h with ⟨h1, h2, h3⟩ | ⟨h1, h3⟩
  · exact .inl ⟨h1, (e r).1 h2, fun k hk hf => h3 k hk ((e k).2 hf)⟩
  · exact .inr ⟨h1, fun k hk hf => h3 k hk ((e k).2 hf)⟩
theorem freeAt_pg {b : Nat → Nat} {i n : Nat} : FreeAt (at_ (pg b 512)) 512 i n ↔ FreeAt (bt b) 512 i n :=
  ⟨fun ⟨h1, h2⟩ => ⟨h1, fun j a c => by rw [← at_pg b (n := 512) (by omega)]; exact h2 j a c⟩, fun ⟨h1, h2⟩ => ⟨h1, fun j a c => by rw [at_pg b (n := 512) (by omega)]; exact h2 j a c⟩⟩
/-- .. of the pages of a box -/
theorem first_pg (B : Nat) (v : Value) (b : Nat → Nat) (n : Nat) (w : World) (hn : 1 ≤ n ∧ n ≤ 1000000) (hr : Reads w B v (pg b 512)) :
    Calls Tryd.prog 21 #[v, .int .i64 (n : Int)] w fun e w' => ∃ r : Nat, IsFirst (bt b) 512 n r ∧ e = .returned (.int .i64 r) ∧ w = w' :=
  (first_any B v _ n w (by rw [pg_length]; omega) hn.2 hr).mono fun _ _ ⟨r, h1, h2, h3⟩ => ⟨r, isFirst_pg (by rwa [pg_length] at h2), h1, h3⟩
theorem free_pg (B : Nat) (v : Value) (b : Nat → Nat) (i n : Nat) (w : World) (hi : i ≤ 1000000) (hn : n ≤ 1000000) (hr : Reads w B v (pg b 512)) :
    Calls Tryd.prog 31 #[v, .int .i64 (i : Int), .int .i64 (n : Int)] w (SameB w (FreeAt (bt b) 512 i n)) :=
  (specFree_any B v _ i n w hi hn hr).mono fun _ _ ⟨x, h1, h2⟩ => ⟨x, by rw [pg_length, freeAt_pg] at h1; exact h1, h2⟩

/-- an index below which no page is free -/
def Idx (b : Nat → Nat) (s : Nat) : Prop := s ≤ 512 ∧ ∀ k, k < s → bt b k = true
theorem IsFirst.idx {b : Nat → Nat} {r s : Nat} (h : IsFirst (bt b) 512 1 r) (hs : s ≤ r) : Idx b s := by
  have hl := h.le
  refine ⟨by omega, fun k hk => ?_⟩
  cases hb : bt b k
  · exfalso
    have hf : FreeAt (bt b) 512 k 1 := ⟨by omega, fun j a c => by rw [show j = k from by omega]; exact hb⟩
    rcases h with ⟨_, _, h3⟩ | ⟨_, h3⟩
    · exact h3 k (by omega) hf
    · exact h3 k (by omega) hf
  · rfl

set_option maxRecDepth 100000 in
set_option maxHeartbeats 800000 in
theorem from_any (b : Nat → Nat) (n : Nat) (w : World) (hb : Words b) (hn : n < 65536) :
    Calls Tryd.prog 26 #[(.agg #[.int .u64 (b 0), .int .u64 (b 1), .int .u64 (b 2), .int .u64 (b 3), .int .u64 (b 4), .int .u64 (b 5), .int .u64 (b 6), .int .u64 (b 7)]), .int .u16 (n : Int)] w (RetU w (Idx b)) := by
  have HB := Lib.hid hb
  clear hb
  go_enter Tryd.func26, Tryd.ntmps26
  go_wp2_with fail
  have hc0 : Cells8 (w.alloc (.cells #[.int .u64 (b 0), .int .u64 (b 1), .int .u64 (b 2), .int .u64 (b 3), .int .u64 (b 4), .int .u64 (b 5), .int .u64 (b 6), .int .u64 (b 7)] 23)) w.heap.size 23 b := Cells8.new' w _ _ _ rfl
  refine (pages_any w.heap.size 8 8 b (Nat.le_refl _) _ (by simp) HB.out (fun j hj => hc0.cell hj)).mono ?_
  rintro e w1 ⟨v, rfl, hl, hbel⟩
  have hb1 : Below w.heap.size w w1 := ((Below.refl _ _).alloc (Nat.le_refl _) _).trans (hbel.mono (by simp))
  have HB1 := Lib.hid hb1
  have HR := Lib.hid (hl.reads (pg_ne b))
  clear hbel hb1 hl hc0
  go_wp2_with fail
  refine (first_pg _ v b 1 _ ⟨by omega, by omega⟩ HR.out).mono ?_
  rintro e w2 ⟨r, hr, rfl, rfl⟩
  have hle := hr.le
  have HI := Lib.hid hr
  clear hr
  by_cases h511 : 511 < r
  · have hd : decide ((511 : Int) < (r : Int)) = true := by simp; omega
    have hm : min (r : Int) 511 = 511 := by omega
    go_wp2
    all_goals first
    | (exfalso; omega)
    | skip
    go_ret
    exact ⟨n % 512, HI.out.idx (by omega), ret_int (by omega), HB1.out⟩
  · have hm : min (r : Int) 511 = (r : Int) := by omega
    go_wp2
    all_goals first
    | (exfalso; omega)
    | skip
    go_ret
    have hlt : n % (r + 1) < r + 1 := Nat.mod_lt _ (by omega)
    exact ⟨n % (r + 1), HI.out.idx (by omega), ret_int rfl, HB1.out⟩
end Go.Proofs.YtkocngnpkfnblaaDoor
