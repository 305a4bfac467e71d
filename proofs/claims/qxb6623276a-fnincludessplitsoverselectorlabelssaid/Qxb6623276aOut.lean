/-
  The early ways out of FnIncludesSplitsOverSelectorLabels.
-/
import Derived.Test.Qxb6623276aCopy
namespace Go.Proofs.Qxb6623276a
open Go.RowKit

set_option maxRecDepth 100000 in
set_option maxHeartbeats 4000000 in
theorem out_a (nm nx : ByteArray) (a1 a2 a4 a5 : Option Addr) (n1 n2 n4 n5 c1 c2 c4 c5 : Nat) (ss1 ss2 ss4 ss5 : List ByteArray) (cut : Int) (w : World)
    (S1 : Strs w a1 n1 ss1) (S2 : Strs w a2 n2 ss2) (S4 : Strs w a4 n4 ss4) (S5 : Strs w a5 n5 ss5)
    (h : 1048576 < nm.size ∨ 1048576 < nx.size) :
    Calls Try.prog 3 #[.string nm, .slice a1 n1 c1, .slice a2 n2 c2, .string nx, .slice a4 n4 c4, .slice a5 n5 c5, .int .i64 cut] w fun e w' => e = .returned (.bool true) ∧ Below w.heap.size w w' := by
  by_cases h1 : 1048576 < nm.size
  · go_enter Try.func3, Try.ntmps3
    go_wp2_with fail
    refine (bytes_any nm nx a1 a2 a4 a5 n1 n2 n4 n5 c1 c2 c4 c5 ss1 ss2 ss4 ss5 _ w S1 S2 S4 S5).mono ?_
    rintro e w' ⟨⟨b, rfl⟩, rfl⟩
    cases b with
    | false =>
      go_wp2
      go_ret
      exact ⟨rfl, Below.refl _ _⟩
    | true =>
      go_wp2
      all_goals (go_ret; exact ⟨rfl, Below.refl _ _⟩)
  · have h2 : 1048576 < nx.size := by omega
    go_enter Try.func3, Try.ntmps3
    go_wp2_with fail
    refine (bytes_any nm nx a1 a2 a4 a5 n1 n2 n4 n5 c1 c2 c4 c5 ss1 ss2 ss4 ss5 _ w S1 S2 S4 S5).mono ?_
    rintro e w' ⟨⟨b, rfl⟩, rfl⟩
    cases b with
    | false =>
      go_wp2
      go_ret
      exact ⟨rfl, Below.refl _ _⟩
    | true =>
      go_wp2
      all_goals (go_ret; exact ⟨rfl, Below.refl _ _⟩)

set_option maxRecDepth 100000 in
set_option maxHeartbeats 4000000 in
theorem out_b (nm nx : ByteArray) (a1 a2 a4 a5 : Option Addr) (n1 n2 n4 n5 c1 c2 c4 c5 : Nat) (ss1 ss2 ss4 ss5 : List ByteArray) (cut : Int) (w : World)
    (S1 : Strs w a1 n1 ss1) (S2 : Strs w a2 n2 ss2) (S4 : Strs w a4 n4 ss4) (S5 : Strs w a5 n5 ss5)
    (hs1 : nm.size ≤ 1048576) (hs2 : nx.size ≤ 1048576) (h : 256 < n1 ∨ 256 < n2 ∨ 256 < n4 ∨ 256 < n5) :
    Calls Try.prog 3 #[.string nm, .slice a1 n1 c1, .slice a2 n2 c2, .string nx, .slice a4 n4 c4, .slice a5 n5 c5, .int .i64 cut] w fun e w' => e = .returned (.bool true) ∧ Below w.heap.size w w' := by
  by_cases h1 : 256 < n1
  · go_enter Try.func3, Try.ntmps3
    go_wp2_with fail
    refine (bytes_any nm nx a1 a2 a4 a5 n1 n2 n4 n5 c1 c2 c4 c5 ss1 ss2 ss4 ss5 _ w S1 S2 S4 S5).mono ?_
    rintro e w' ⟨⟨b, rfl⟩, rfl⟩
    cases b with
    | false =>
      go_wp2
      go_ret
      exact ⟨rfl, Below.refl _ _⟩
    | true =>
      go_wp2
      all_goals (go_ret; exact ⟨rfl, Below.refl _ _⟩)
  by_cases h2 : 256 < n2
  · go_enter Try.func3, Try.ntmps3
    go_wp2_with fail
    refine (bytes_any nm nx a1 a2 a4 a5 n1 n2 n4 n5 c1 c2 c4 c5 ss1 ss2 ss4 ss5 _ w S1 S2 S4 S5).mono ?_
    rintro e w' ⟨⟨b, rfl⟩, rfl⟩
    cases b with
    | false =>
      go_wp2
      go_ret
      exact ⟨rfl, Below.refl _ _⟩
    | true =>
      go_wp2
      all_goals (go_ret; exact ⟨rfl, Below.refl _ _⟩)
  by_cases h4 : 256 < n4
  · go_enter Try.func3, Try.ntmps3
    go_wp2_with fail
    refine (bytes_any nm nx a1 a2 a4 a5 n1 n2 n4 n5 c1 c2 c4 c5 ss1 ss2 ss4 ss5 _ w S1 S2 S4 S5).mono ?_
    rintro e w' ⟨⟨b, rfl⟩, rfl⟩
    cases b with
    | false =>
      go_wp2
      go_ret
      exact ⟨rfl, Below.refl _ _⟩
    | true =>
      go_wp2
      all_goals (go_ret; exact ⟨rfl, Below.refl _ _⟩)
  · have h5 : 256 < n5 := by omega
    go_enter Try.func3, Try.ntmps3
    go_wp2_with fail
    refine (bytes_any nm nx a1 a2 a4 a5 n1 n2 n4 n5 c1 c2 c4 c5 ss1 ss2 ss4 ss5 _ w S1 S2 S4 S5).mono ?_
    rintro e w' ⟨⟨b, rfl⟩, rfl⟩
    cases b with
    | false =>
      go_wp2
      go_ret
      exact ⟨rfl, Below.refl _ _⟩
    | true =>
      go_wp2
      all_goals (go_ret; exact ⟨rfl, Below.refl _ _⟩)

set_option maxRecDepth 100000 in
set_option maxHeartbeats 4000000 in
theorem out_c (nm nx : ByteArray) (a1 a2 a4 a5 : Option Addr) (n1 n2 n4 n5 c1 c2 c4 c5 : Nat) (ss1 ss2 ss4 ss5 : List ByteArray) (cut : Int) (w : World)
    (S1 : Strs w a1 n1 ss1) (S2 : Strs w a2 n2 ss2) (S4 : Strs w a4 n4 ss4) (S5 : Strs w a5 n5 ss5)
    (hs1 : nm.size ≤ 1048576) (hs2 : nx.size ≤ 1048576) (h1 : n1 ≤ 256) (h2 : n2 ≤ 256) (h4 : n4 ≤ 256) (h5 : n5 ≤ 256) (h : ¬ n1 = n2 ∨ ¬ n4 = n5) :
    Calls Try.prog 3 #[.string nm, .slice a1 n1 c1, .slice a2 n2 c2, .string nx, .slice a4 n4 c4, .slice a5 n5 c5, .int .i64 cut] w fun e w' => e = .returned (.bool true) ∧ Below w.heap.size w w' := by
  by_cases e1 : n1 = n2
  · have e4 : ¬ n4 = n5 := by omega
    subst e1
    go_enter Try.func3, Try.ntmps3
    go_wp2_with fail
    refine (bytes_any nm nx a1 a2 a4 a5 n1 n1 n4 n5 c1 c2 c4 c5 ss1 ss2 ss4 ss5 _ w S1 S2 S4 S5).mono ?_
    rintro e w' ⟨⟨b, rfl⟩, rfl⟩
    cases b with
    | false =>
      go_wp2
      go_ret
      exact ⟨rfl, Below.refl _ _⟩
    | true =>
      go_wp2_with fail
      refine (within_any _ _ _ _ _ _ (by omega) S1).mono ?_
      rintro e w' ⟨⟨b, rfl⟩, rfl⟩
      cases b with
      | false =>
        go_wp2
        go_ret
        exact ⟨rfl, Below.refl _ _⟩
      | true =>
      go_wp2_with fail
      refine (within_any _ _ _ _ _ _ (by omega) S2).mono ?_
      rintro e w' ⟨⟨b, rfl⟩, rfl⟩
      cases b with
      | false =>
        go_wp2
        go_ret
        exact ⟨rfl, Below.refl _ _⟩
      | true =>
      go_wp2_with fail
      refine (within_any _ _ _ _ _ _ (by omega) S4).mono ?_
      rintro e w' ⟨⟨b, rfl⟩, rfl⟩
      cases b with
      | false =>
        go_wp2
        go_ret
        exact ⟨rfl, Below.refl _ _⟩
      | true =>
      go_wp2_with fail
      refine (within_any _ _ _ _ _ _ (by omega) S5).mono ?_
      rintro e w' ⟨⟨b, rfl⟩, rfl⟩
      cases b with
      | false =>
        go_wp2
        go_ret
        exact ⟨rfl, Below.refl _ _⟩
      | true =>
      go_wp2
      all_goals (go_ret; exact ⟨rfl, Below.refl _ _⟩)
  · go_enter Try.func3, Try.ntmps3
    go_wp2_with fail
    refine (bytes_any nm nx a1 a2 a4 a5 n1 n2 n4 n5 c1 c2 c4 c5 ss1 ss2 ss4 ss5 _ w S1 S2 S4 S5).mono ?_
    rintro e w' ⟨⟨b, rfl⟩, rfl⟩
    cases b with
    | false =>
      go_wp2
      go_ret
      exact ⟨rfl, Below.refl _ _⟩
    | true =>
      go_wp2_with fail
      refine (within_any _ _ _ _ _ _ (by omega) S1).mono ?_
      rintro e w' ⟨⟨b, rfl⟩, rfl⟩
      cases b with
      | false =>
        go_wp2
        go_ret
        exact ⟨rfl, Below.refl _ _⟩
      | true =>
      go_wp2_with fail
      refine (within_any _ _ _ _ _ _ (by omega) S2).mono ?_
      rintro e w' ⟨⟨b, rfl⟩, rfl⟩
      cases b with
      | false =>
        go_wp2
        go_ret
        exact ⟨rfl, Below.refl _ _⟩
      | true =>
      go_wp2_with fail
      refine (within_any _ _ _ _ _ _ (by omega) S4).mono ?_
      rintro e w' ⟨⟨b, rfl⟩, rfl⟩
      cases b with
      | false =>
        go_wp2
        go_ret
        exact ⟨rfl, Below.refl _ _⟩
      | true =>
      go_wp2_with fail
      refine (within_any _ _ _ _ _ _ (by omega) S5).mono ?_
      rintro e w' ⟨⟨b, rfl⟩, rfl⟩
      cases b with
      | false =>
        go_wp2
        go_ret
        exact ⟨rfl, Below.refl _ _⟩
      | true =>
      go_wp2
      all_goals (go_ret; exact ⟨rfl, Below.refl _ _⟩)

set_option maxRecDepth 100000 in
set_option maxHeartbeats 4000000 in
theorem out_d (nm nx : ByteArray) (a1 a2 a4 a5 : Option Addr) (n1 n4 c1 c2 c4 c5 : Nat) (ss1 ss2 ss4 ss5 : List ByteArray) (cut : Int) (w : World)
    (S1 : Strs w a1 n1 ss1) (S2 : Strs w a2 n1 ss2) (S4 : Strs w a4 n4 ss4) (S5 : Strs w a5 n4 ss5)
    (hs1 : nm.size ≤ 1048576) (hs2 : nx.size ≤ 1048576) (h1 : n1 ≤ 256) (h4 : n4 ≤ 256) (h : cut < 0 ∨ (n4 : Int) < cut) :
    Calls Try.prog 3 #[.string nm, .slice a1 n1 c1, .slice a2 n1 c2, .string nx, .slice a4 n4 c4, .slice a5 n4 c5, .int .i64 cut] w fun e w' => e = .returned (.bool true) ∧ Below w.heap.size w w' := by
  by_cases e1 : cut < 0
  · go_enter Try.func3, Try.ntmps3
    go_wp2_with fail
    refine (bytes_any nm nx a1 a2 a4 a5 n1 n1 n4 n4 c1 c2 c4 c5 ss1 ss2 ss4 ss5 _ w S1 S2 S4 S5).mono ?_
    rintro e w' ⟨⟨b, rfl⟩, rfl⟩
    cases b with
    | false =>
      go_wp2
      go_ret
      exact ⟨rfl, Below.refl _ _⟩
    | true =>
      go_wp2_with fail
      refine (within_any _ _ _ _ _ _ (by omega) S1).mono ?_
      rintro e w' ⟨⟨b, rfl⟩, rfl⟩
      cases b with
      | false =>
        go_wp2
        go_ret
        exact ⟨rfl, Below.refl _ _⟩
      | true =>
      go_wp2_with fail
      refine (within_any _ _ _ _ _ _ (by omega) S2).mono ?_
      rintro e w' ⟨⟨b, rfl⟩, rfl⟩
      cases b with
      | false =>
        go_wp2
        go_ret
        exact ⟨rfl, Below.refl _ _⟩
      | true =>
      go_wp2_with fail
      refine (within_any _ _ _ _ _ _ (by omega) S4).mono ?_
      rintro e w' ⟨⟨b, rfl⟩, rfl⟩
      cases b with
      | false =>
        go_wp2
        go_ret
        exact ⟨rfl, Below.refl _ _⟩
      | true =>
      go_wp2_with fail
      refine (within_any _ _ _ _ _ _ (by omega) S5).mono ?_
      rintro e w' ⟨⟨b, rfl⟩, rfl⟩
      cases b with
      | false =>
        go_wp2
        go_ret
        exact ⟨rfl, Below.refl _ _⟩
      | true =>
      go_wp2
      all_goals (go_ret; exact ⟨rfl, Below.refl _ _⟩)
  · have e4 : (n4 : Int) < cut := by omega
    go_enter Try.func3, Try.ntmps3
    go_wp2_with fail
    refine (bytes_any nm nx a1 a2 a4 a5 n1 n1 n4 n4 c1 c2 c4 c5 ss1 ss2 ss4 ss5 _ w S1 S2 S4 S5).mono ?_
    rintro e w' ⟨⟨b, rfl⟩, rfl⟩
    cases b with
    | false =>
      go_wp2
      go_ret
      exact ⟨rfl, Below.refl _ _⟩
    | true =>
      go_wp2_with fail
      refine (within_any _ _ _ _ _ _ (by omega) S1).mono ?_
      rintro e w' ⟨⟨b, rfl⟩, rfl⟩
      cases b with
      | false =>
        go_wp2
        go_ret
        exact ⟨rfl, Below.refl _ _⟩
      | true =>
      go_wp2_with fail
      refine (within_any _ _ _ _ _ _ (by omega) S2).mono ?_
      rintro e w' ⟨⟨b, rfl⟩, rfl⟩
      cases b with
      | false =>
        go_wp2
        go_ret
        exact ⟨rfl, Below.refl _ _⟩
      | true =>
      go_wp2_with fail
      refine (within_any _ _ _ _ _ _ (by omega) S4).mono ?_
      rintro e w' ⟨⟨b, rfl⟩, rfl⟩
      cases b with
      | false =>
        go_wp2
        go_ret
        exact ⟨rfl, Below.refl _ _⟩
      | true =>
      go_wp2_with fail
      refine (within_any _ _ _ _ _ _ (by omega) S5).mono ?_
      rintro e w' ⟨⟨b, rfl⟩, rfl⟩
      cases b with
      | false =>
        go_wp2
        go_ret
        exact ⟨rfl, Below.refl _ _⟩
      | true =>
      go_wp2
      all_goals (go_ret; exact ⟨rfl, Below.refl _ _⟩)
end Go.Proofs.Qxb6623276a
