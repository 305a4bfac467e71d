/-
  The contracts of MaxEncodedLen and tenValuesLen, and the walk of the law.
-/
import Derived.Test.Qxb6623290aProg
import Derived.WalkKit
import Derived.ProofKit
import Derived.Below
namespace Go.Proofs.Qxb6623290a
open Go.RowKit

theorem max_yes (n : Int) (w : World) (h0 : 0 ≤ n) (h1 : n ≤ 922337203685477580) :
    Calls Try.prog 4 #[.int .i64 n] w fun e w' => e = .returned (.int .i64 (10 * n)) ∧ w = w' := by
  go_enter Try.func4, Try.ntmps4
  go_wp2
  go_ret
  exact ⟨rfl, rfl⟩

theorem wrap_neg (n : Int) (h0 : n < 0) (h1 : -9223372036854775808 ≤ n) : 922337203685477580 < IntKind.u64.wrap n := by
  rw [IntKind.wrap_u64]; omega

theorem max_neg (n : Int) (w : World) (h0 : n < 0) (h1 : -9223372036854775808 ≤ n) :
    Calls Try.prog 4 #[.int .i64 n] w fun e w' => e = .returned (.int .i64 (-1)) ∧ w = w' := by
  have hw := wrap_neg n h0 h1
  go_enter Try.func4, Try.ntmps4
  go_wp2
  go_ret
  exact ⟨rfl, rfl⟩

theorem max_big (n : Int) (w : World) (h0 : 922337203685477580 < n) (h1 : n ≤ 9223372036854775807) :
    Calls Try.prog 4 #[.int .i64 n] w fun e w' => e = .returned (.int .i64 (-1)) ∧ w = w' := by
  go_enter Try.func4, Try.ntmps4
  go_wp2
  go_ret
  exact ⟨rfl, rfl⟩

theorem ten_neg (n : Int) (w : World) (h0 : n < 0) :
    Calls Try.prog 5 #[.int .i64 n] w fun e w' => e = .returned (.int .i64 (-1)) ∧ w = w' := by
  go_enter Try.func5, Try.ntmps5
  go_wp2
  go_ret
  exact ⟨rfl, rfl⟩

/-- k times n, one step on. -/
theorem times_succ (k : Nat) (n t : Int) (h : t = k * n) : t + n = ((k + 1 : Nat) : Int) * n := by
  rw [h, Int.natCast_add, Int.add_mul]; simp
theorem times_ten (n t : Int) (h : t = (10 : Nat) * n) : t = 10 * n := h
theorem times_le (k : Nat) (n t : Int) (h : t = k * n) (h0 : 0 ≤ n) (hk : k < 10) : t + n ≤ 10 * n := by
  rw [times_succ k n t h]
  exact Int.mul_le_mul_of_nonneg_right (by omega) h0

theorem ten_yes (n : Int) (w : World) (h0 : 0 ≤ n) (h1 : n ≤ 922337203685477580) :
    Calls Try.prog 5 #[.int .i64 n] w fun e w' => e = .returned (.int .i64 (10 * n)) ∧ w = w' := by
  go_enter Try.func5, Try.ntmps5
  go_wp2
  go_loop [3, 4] (fun s i => ∃ k : Nat, k ≤ 10 ∧ i = .int .i64 k ∧ ∃ t : Int, s = .int .i64 t ∧ Hid (t = k * n) ∧ 0 ≤ t ∧ t ≤ 9223372036854775800) (fun _ i => 10 - (intOf i).toNat)
  case atStart => exact ⟨0, by omega, rfl, 0, rfl, by show (0 : Int) = ((0 : Nat) : Int) * n; simp, by omega, by omega⟩
  case round =>
    obtain ⟨k, hk, rfl, t, rfl, ht, ht0, ht1⟩ := hrel
    by_cases hlt : k < 10
    · have hle := times_le k n t ht.out h0 hlt
      go_wp2
      go_round
      case rel => exact ⟨k + 1, by omega, by go_num, t + n, rfl, times_succ k n t ht.out, by omega, by omega⟩
      case measure => simp [intOf]; omega
    · obtain rfl : k = 10 := by omega
      go_wp2
      go_ret
      exact ⟨congrArg (fun x => Ending.returned (.int .i64 x)) (times_ten n t ht.out), rfl⟩

theorem ten_big (n : Int) (w : World) (h0 : 922337203685477580 < n) (h1 : n ≤ 9223372036854775807) :
    Calls Try.prog 5 #[.int .i64 n] w fun e w' => e = .returned (.int .i64 (-1)) ∧ w = w' := by
  go_enter Try.func5, Try.ntmps5
  go_wp2
  go_loop [3, 4] (fun s i => ∃ k : Nat, k ≤ 10 ∧ i = .int .i64 k ∧ ∃ t : Int, s = .int .i64 t ∧ Hid (t = k * n) ∧ 0 ≤ t ∧ t ≤ 9223372036854775807) (fun _ i => 10 - (intOf i).toNat)
  case atStart => exact ⟨0, by omega, rfl, 0, rfl, by show (0 : Int) = ((0 : Nat) : Int) * n; simp, by omega, by omega⟩
  case round =>
    obtain ⟨k, hk, rfl, t, rfl, ht, ht0, ht1⟩ := hrel
    have hk10 : k < 10 := by
      by_cases h : k < 10
      · exact h
      · obtain rfl : k = 10 := by omega
        have := times_ten n t ht.out
        omega
    by_cases hle : t + n ≤ 9223372036854775807
    · go_wp2
      go_round
      case rel => exact ⟨k + 1, by omega, by go_num, t + n, rfl, times_succ k n t ht.out, by omega, by omega⟩
      case measure => simp [intOf]; omega
    · go_wp2
      go_ret
      exact ⟨rfl, rfl⟩

/-- What both answer: ten times n, where that is an int. -/
def mx (n : Int) : Int := if 0 ≤ n ∧ n ≤ 922337203685477580 then 10 * n else -1

theorem mx_yes {n : Int} (h0 : 0 ≤ n) (h1 : n ≤ 922337203685477580) : mx n = 10 * n := if_pos ⟨h0, h1⟩
theorem mx_neg {n : Int} (h0 : n < 0) : mx n = -1 := if_neg (by omega)
theorem mx_big {n : Int} (h0 : 922337203685477580 < n) : mx n = -1 := if_neg (by omega)

theorem max_is (n r : Int) (hr : Hid (r = mx n)) (w : World) (h1 : -9223372036854775808 ≤ n) (h2 : n ≤ 9223372036854775807) :
    Calls Try.prog 4 #[.int .i64 n] w fun e w' => e = .returned (.int .i64 r) ∧ w = w' := by
  rw [hr.out]
  by_cases a : n < 0
  · rw [mx_neg a]; exact max_neg n w a h1
  by_cases b : n ≤ 922337203685477580
  · rw [mx_yes (by omega) b]; exact max_yes n w (by omega) b
  · rw [mx_big (by omega)]; exact max_big n w (by omega) h2

theorem ten_is (n r : Int) (hr : Hid (r = mx n)) (w : World) (_h1 : -9223372036854775808 ≤ n) (h2 : n ≤ 9223372036854775807) :
    Calls Try.prog 5 #[.int .i64 n] w fun e w' => e = .returned (.int .i64 r) ∧ w = w' := by
  rw [hr.out]
  by_cases a : n < 0
  · rw [mx_neg a]; exact ten_neg n w a
  by_cases b : n ≤ 922337203685477580
  · rw [mx_yes (by omega) b]; exact ten_yes n w (by omega) b
  · rw [mx_big (by omega)]; exact ten_big n w (by omega) h2

/-- The two bounds' own bounds. -/
theorem mx_range (n : Int) : -1 ≤ mx n ∧ mx n ≤ 9223372036854775800 := by
  unfold mx; split <;> omega

set_option maxHeartbeats 1000000 in
theorem law_any (a b : Int) (w : World) (ha1 : -9223372036854775808 ≤ a) (ha2 : a ≤ 9223372036854775807) (hb1 : -9223372036854775808 ≤ b) (hb2 : b ≤ 9223372036854775807) :
    Calls Try.prog 3 #[.int .i64 a, .int .i64 b] w fun e w' => e = .returned (.bool true) ∧ Grown w w' := by
  obtain ⟨ra, ea⟩ : ∃ r, r = mx a := ⟨_, rfl⟩
  obtain ⟨rb, eb⟩ : ∃ r, r = mx b := ⟨_, rfl⟩
  obtain ⟨rs, es⟩ : ∃ r, r = mx (a + b) := ⟨_, rfl⟩
  have Ea : Hid (ra = mx a) := ea
  have Eb : Hid (rb = mx b) := eb
  have Es : Hid (rs = mx (a + b)) := es
  have q1 := mx_range a
  have q2 := mx_range b
  rw [← ea] at q1
  rw [← eb] at q2
  clear ea eb es
  obtain ⟨q1a, q1b⟩ := q1
  obtain ⟨q2a, q2b⟩ := q2
  by_cases c1 : a < 0
  · go_enter Try.func3, Try.ntmps3
    go_wp2_with fail
    refine (max_is a ra Ea w ha1 ha2).mono ?_
    rintro e w' ⟨rfl, rfl⟩
    go_wp2_with fail
    refine (max_is b rb Eb w hb1 hb2).mono ?_
    rintro e w' ⟨rfl, rfl⟩
    go_wp2_with fail
    refine (ten_is a ra Ea w ha1 ha2).mono ?_
    rintro e w' ⟨rfl, rfl⟩
    go_wp2_with fail
    refine (ten_is b rb Eb w hb1 hb2).mono ?_
    rintro e w' ⟨rfl, rfl⟩
    go_wp2
    go_ret
    exact ⟨rfl, Grown.refl _⟩
  by_cases c2 : b < 0
  · go_enter Try.func3, Try.ntmps3
    go_wp2_with fail
    refine (max_is a ra Ea w ha1 ha2).mono ?_
    rintro e w' ⟨rfl, rfl⟩
    go_wp2_with fail
    refine (max_is b rb Eb w hb1 hb2).mono ?_
    rintro e w' ⟨rfl, rfl⟩
    go_wp2_with fail
    refine (ten_is a ra Ea w ha1 ha2).mono ?_
    rintro e w' ⟨rfl, rfl⟩
    go_wp2_with fail
    refine (ten_is b rb Eb w hb1 hb2).mono ?_
    rintro e w' ⟨rfl, rfl⟩
    go_wp2
    go_ret
    exact ⟨rfl, Grown.refl _⟩
  by_cases c3 : 9223372036854775807 < a + b
  · go_enter Try.func3, Try.ntmps3
    go_wp2_with fail
    refine (max_is a ra Ea w ha1 ha2).mono ?_
    rintro e w' ⟨rfl, rfl⟩
    go_wp2_with fail
    refine (max_is b rb Eb w hb1 hb2).mono ?_
    rintro e w' ⟨rfl, rfl⟩
    go_wp2_with fail
    refine (ten_is a ra Ea w ha1 ha2).mono ?_
    rintro e w' ⟨rfl, rfl⟩
    go_wp2_with fail
    refine (ten_is b rb Eb w hb1 hb2).mono ?_
    rintro e w' ⟨rfl, rfl⟩
    go_wp2
    go_ret
    exact ⟨rfl, Grown.refl _⟩
  by_cases c4 : 922337203685477580 < a
  · have f1 : ra ≤ -1 := by rw [Ea.out, mx_big c4]; omega
    have f2 : rs ≤ -1 := by rw [Es.out, mx_big (by omega)]; omega
    have f3 : -1 ≤ rs := (by rw [Es.out]; exact (mx_range _).1)
    go_enter Try.func3, Try.ntmps3
    go_wp2_with fail
    refine (max_is a ra Ea w ha1 ha2).mono ?_
    rintro e w' ⟨rfl, rfl⟩
    go_wp2_with fail
    refine (max_is b rb Eb w hb1 hb2).mono ?_
    rintro e w' ⟨rfl, rfl⟩
    go_wp2_with fail
    refine (ten_is a ra Ea w ha1 ha2).mono ?_
    rintro e w' ⟨rfl, rfl⟩
    go_wp2_with fail
    refine (ten_is b rb Eb w hb1 hb2).mono ?_
    rintro e w' ⟨rfl, rfl⟩
    go_wp2_with fail
    refine (max_is (a + b) rs Es w (by omega) (by omega)).mono ?_
    rintro e w' ⟨rfl, rfl⟩
    go_wp2
    go_ret
    refine ⟨?_, Grown.refl _⟩
    first | rfl | (simp; done) | (simp; omega)
  by_cases c5 : 922337203685477580 < b
  · have f0 : 0 ≤ ra := by rw [Ea.out, mx_yes (by omega) (by omega)]; omega
    have f1 : rb ≤ -1 := by rw [Eb.out, mx_big c5]; omega
    have f2 : rs ≤ -1 := by rw [Es.out, mx_big (by omega)]; omega
    have f3 : -1 ≤ rs := (by rw [Es.out]; exact (mx_range _).1)
    go_enter Try.func3, Try.ntmps3
    go_wp2_with fail
    refine (max_is a ra Ea w ha1 ha2).mono ?_
    rintro e w' ⟨rfl, rfl⟩
    go_wp2_with fail
    refine (max_is b rb Eb w hb1 hb2).mono ?_
    rintro e w' ⟨rfl, rfl⟩
    go_wp2_with fail
    refine (ten_is a ra Ea w ha1 ha2).mono ?_
    rintro e w' ⟨rfl, rfl⟩
    go_wp2_with fail
    refine (ten_is b rb Eb w hb1 hb2).mono ?_
    rintro e w' ⟨rfl, rfl⟩
    go_wp2_with fail
    refine (max_is (a + b) rs Es w (by omega) (by omega)).mono ?_
    rintro e w' ⟨rfl, rfl⟩
    go_wp2
    go_ret
    refine ⟨?_, Grown.refl _⟩
    first | rfl | (simp; done) | (simp; omega)
  have g1 : ra = 10 * a := by rw [Ea.out, mx_yes (by omega) (by omega)]
  have g2 : rb = 10 * b := by rw [Eb.out, mx_yes (by omega) (by omega)]
  have g1a : ra ≤ 10 * a := by omega
  have g1b : 10 * a ≤ ra := by omega
  have g2a : rb ≤ 10 * b := by omega
  have g2b : 10 * b ≤ rb := by omega
  clear g1 g2
  by_cases c6 : 922337203685477580 < a + b
  · have f2 : rs ≤ -1 := by rw [Es.out, mx_big (by omega)]; omega
    have f3 : -1 ≤ rs := (by rw [Es.out]; exact (mx_range _).1)
    go_enter Try.func3, Try.ntmps3
    go_wp2_with fail
    refine (max_is a ra Ea w ha1 ha2).mono ?_
    rintro e w' ⟨rfl, rfl⟩
    go_wp2_with fail
    refine (max_is b rb Eb w hb1 hb2).mono ?_
    rintro e w' ⟨rfl, rfl⟩
    go_wp2_with fail
    refine (ten_is a ra Ea w ha1 ha2).mono ?_
    rintro e w' ⟨rfl, rfl⟩
    go_wp2_with fail
    refine (ten_is b rb Eb w hb1 hb2).mono ?_
    rintro e w' ⟨rfl, rfl⟩
    go_wp2_with fail
    refine (max_is (a + b) rs Es w (by omega) (by omega)).mono ?_
    rintro e w' ⟨rfl, rfl⟩
    go_wp2
    go_ret
    refine ⟨?_, Grown.refl _⟩
    first | rfl | (simp; done) | (simp; omega)
  · have f4 : rs = 10 * (a + b) := by rw [Es.out, mx_yes (by omega) (by omega)]
    have f2 : rs ≤ 10 * a + 10 * b := by omega
    have f3 : 10 * a + 10 * b ≤ rs := by omega
    clear f4
    go_enter Try.func3, Try.ntmps3
    go_wp2_with fail
    refine (max_is a ra Ea w ha1 ha2).mono ?_
    rintro e w' ⟨rfl, rfl⟩
    go_wp2_with fail
    refine (max_is b rb Eb w hb1 hb2).mono ?_
    rintro e w' ⟨rfl, rfl⟩
    go_wp2_with fail
    refine (ten_is a ra Ea w ha1 ha2).mono ?_
    rintro e w' ⟨rfl, rfl⟩
    go_wp2_with fail
    refine (ten_is b rb Eb w hb1 hb2).mono ?_
    rintro e w' ⟨rfl, rfl⟩
    go_wp2_with fail
    refine (max_is (a + b) rs Es w (by omega) (by omega)).mono ?_
    rintro e w' ⟨rfl, rfl⟩
    go_wp2
    go_ret
    refine ⟨?_, Grown.refl _⟩
    first | rfl | (simp; done) | (simp; omega)
end Go.Proofs.Qxb6623290a
