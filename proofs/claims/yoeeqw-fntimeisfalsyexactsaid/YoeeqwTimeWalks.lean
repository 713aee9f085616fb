/-
  THE WALKS for 'FnTimeIsFalsyExact': (time.Time).Add at the zero time, zzAtB3, (time.Time).IsZero, (*Time).IsFalsy, and the law itself.
  nsec (function 14) and addSec (function 15) are walked in place inside Add.
-/
import Derived.Test.YoeeqwRows
import Derived.WalkKit
import Derived.WalkSpells
import Derived.Laws.BitsAllLaws
import Derived.RowKit3
namespace Go.Proofs.Yoeeqw
open Go.RowKit

/-! ### The bits of 'wall': facts with no Go in sight -/
theorem mask_zero : bits .and .u64 0 1073741823 = 0 := by decide
theorem unmask_zero : bits .andNot .u64 0 1073741823 = 0 := by decide
theorem or_zero (n : Int) (h0 : 0 ≤ n) (h1 : n < 1000000000) : bits .or .u64 0 n = n := by
  rw [u64_or 0 n (by omega) (by omega) h0 (by omega)]
  simp; omega
theorem mono_clear (n : Int) (h0 : 0 ≤ n) (h1 : n < 1000000000) : bits .and .u64 n 9223372036854775808 = 0 := by
  rw [u64_and n 9223372036854775808 h0 (by omega) (by omega) (by omega)]
  have e : (9223372036854775808 : Int).toNat = 2 ^ 63 := by decide
  rw [e, nat_bit 63, Nat.div_eq_of_lt (by omega)]
  simp

/-! ### The walks -/
/-- (time.Time).IsZero. -/
theorem iszero_any (a b : Int) (w : World) :
    Calls Eeqg.prog 11 #[.agg #[.int .u64 a, .int .i64 b, .pointer none]] w fun e w' =>
      e = .returned (.bool (a == 0 && b == 0)) ∧ ∃ c1 : Array Value, w' = w.alloc (.cells c1 26) := by
  go_enter Eeqg.func11, Eeqg.ntmps11
  go_wp2
  all_goals (go_ret; exact ⟨by simp [*], _, rfl⟩)

/-- Add at the zero time, the remainder negative. -/
theorem add_neg (d q r : Int) (hq : d.tdiv 1000000000 = q) (hr : d.tmod 1000000000 = r) (hr1 : -1000000000 < r) (hr2 : r < 0)
    (hq1 : -9223372040 ≤ q) (hq2 : q ≤ 9223372040) (w : World) :
    Calls Eeqg.prog 10 #[.agg #[.int .u64 0, .int .i64 0, .pointer none], .int .i64 d] w fun e w' =>
      e = .returned (.agg #[.int .u64 (r + 1000000000), .int .i64 (q - 1), .pointer none]) ∧ ∃ c1 c2 : Array Value, w' = (w.alloc (.cells c1 26)).alloc (.cells c2 26) := by
  have m0 := mask_zero
  have m1 := unmask_zero
  have m2 := or_zero (r + 1000000000) (by omega) (by omega)
  have m3 := mono_clear (r + 1000000000) (by omega) (by omega)
  go_enter Eeqg.func10, Eeqg.ntmps10
  go_wp2
  go_end0
  go_wp2
  simp [bodyPost, results, Eeqg.results10, go_sem]
  exact ⟨_, _, rfl⟩

/-- Add at the zero time, the remainder not negative. -/
theorem add_pos (d q r : Int) (hq : d.tdiv 1000000000 = q) (hr : d.tmod 1000000000 = r) (hr1 : 0 ≤ r) (hr2 : r < 1000000000)
    (hq1 : -9223372040 ≤ q) (hq2 : q ≤ 9223372040) (w : World) :
    Calls Eeqg.prog 10 #[.agg #[.int .u64 0, .int .i64 0, .pointer none], .int .i64 d] w fun e w' =>
      e = .returned (.agg #[.int .u64 r, .int .i64 q, .pointer none]) ∧ ∃ c1 c2 : Array Value, w' = (w.alloc (.cells c1 26)).alloc (.cells c2 26) := by
  have m0 := mask_zero
  have m1 := unmask_zero
  have m2 := or_zero r (by omega) (by omega)
  have m3 := mono_clear r (by omega) (by omega)
  go_enter Eeqg.func10, Eeqg.ntmps10
  go_wp2
  go_end0
  go_wp2
  simp [bodyPost, results, Eeqg.results10, go_sem]
  exact ⟨_, _, rfl⟩

/-- Add at the zero time, whatever the duration: the floor of the seconds, and the nanoseconds that are left. -/
theorem add_any (d : Int) (h1 : -9223372036854775808 ≤ d) (h2 : d ≤ 9223372036854775807) (w : World) :
    Calls Eeqg.prog 10 #[.agg #[.int .u64 0, .int .i64 0, .pointer none], .int .i64 d] w fun e w' =>
      e = .returned (.agg #[.int .u64 (d % 1000000000), .int .i64 (d / 1000000000), .pointer none]) ∧ ∃ c1 c2 : Array Value, w' = (w.alloc (.cells c1 26)).alloc (.cells c2 26) := by
  have b1 := Int.lt_tmod_of_pos d (b := 1000000000) (by decide)
  have b2 := Int.tmod_lt_of_pos d (b := 1000000000) (by decide)
  have e := Int.mul_tdiv_add_tmod d 1000000000
  rcases Int.lt_or_le (d.tmod 1000000000) 0 with h | h
  · have e1 : d % 1000000000 = d.tmod 1000000000 + 1000000000 := by omega
    have e2 : d / 1000000000 = d.tdiv 1000000000 - 1 := by omega
    rw [e1, e2]
    exact add_neg d _ _ rfl rfl b1 h (by omega) (by omega) w
  · have e1 : d % 1000000000 = d.tmod 1000000000 := by omega
    have e2 : d / 1000000000 = d.tdiv 1000000000 := by omega
    rw [e1, e2]
    exact add_pos d _ _ rfl rfl h b2 (by omega) (by omega) w

/-- zzAtB3: the instant that lies ns nanoseconds after the zero time. -/
theorem at_any (d : Int) (h1 : -9223372036854775808 ≤ d) (h2 : d ≤ 9223372036854775807) (w : World) :
    Calls Eeqg.prog 5 #[.int .i64 d] w fun e w' =>
      e = .returned (.agg #[.int .u64 (d % 1000000000), .int .i64 (d / 1000000000), .pointer none]) ∧ ∃ c1 c2 c3 : Array Value, w' = ((w.alloc (.cells c1 26)).alloc (.cells c2 26)).alloc (.cells c3 26) := by
  go_enter Eeqg.func5, Eeqg.ntmps5
  go_wp2_with (go_at_call 10; refine (add_any d h1 h2 _).mono ?_; rintro e w' ⟨rfl, c1, c2, rfl⟩)
  simp [bodyPost, results, Eeqg.results5, go_sem]
  exact ⟨_, _, _, rfl⟩

/-- (*Time).IsFalsy: is the instant the zero time? -/
theorem falsy_any (a b : Int) (k : Nat) (w : World) (c0 : w.cell? ⟨k, 0, none⟩ = some (.int .u64 a)) (c1 : w.cell? ⟨k, 1, none⟩ = some (.int .i64 b)) (c2 : w.cell? ⟨k, 2, none⟩ = some (.pointer none)) :
    Calls Eeqg.prog 6 #[.pointer (some ⟨k, 0, none⟩)] w fun e w' =>
      e = .returned (.bool (a == 0 && b == 0)) ∧ ∃ c1 : Array Value, w' = w.alloc (.cells c1 26) := by
  go_enter Eeqg.func6, Eeqg.ntmps6
  go_wp2_with (go_at_call 11; refine (iszero_any a b _).mono ?_; rintro e w' ⟨rfl, c1, rfl⟩)
  go_ret
  exact ⟨rfl, _, rfl⟩

/-- The plain law: no whole second and no nanosecond are left exactly at 0. -/
theorem zero_iff (d : Int) : (d % 1000000000 == 0 && d / 1000000000 == 0) = (d == 0) := by
  rw [Bool.eq_iff_iff]
  simp only [Bool.and_eq_true, beq_iff_eq]
  omega

/-- FnTimeIsFalsyExact returns true. -/
theorem law_any (d : Int) (h1 : -9223372036854775808 ≤ d) (h2 : d ≤ 9223372036854775807) (w : World) :
    Calls Eeqg.prog 3 #[.int .i64 d] w fun e w' => e = .returned (.bool true) ∧ Grown w w' := by
  go_enter Eeqg.func3, Eeqg.ntmps3
  go_wp2_with fail
  refine (at_any d h1 h2 _).mono ?_
  rintro e w' ⟨rfl, c1, c2, c3, rfl⟩
  go_wp2_with fail
  refine (falsy_any (d % 1000000000) (d / 1000000000) _ _ (by simp [go_sem]) (by simp [go_sem]) (by simp [go_sem])).mono ?_
  rintro e w' ⟨rfl, c4, rfl⟩
  rw [zero_iff d]
  go_wp2_with fail
  refine (falsy_any 0 0 _ _ (by simp [go_sem]) (by simp [go_sem]) (by simp [go_sem])).mono ?_
  rintro e w' ⟨rfl, c5, rfl⟩
  go_wp2
  go_ret
  exact ⟨rfl, by repeat (first | exact Grown.refl _ | apply Grown.alloc)⟩

end Go.Proofs.Yoeeqw
