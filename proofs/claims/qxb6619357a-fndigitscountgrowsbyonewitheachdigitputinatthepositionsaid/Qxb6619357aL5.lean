/-
  The walk of FnDigitsCountGrowsByOneWithEachDigitPutInAtThePosition.
-/
import Derived.Test.Qxb6619357aInsert
import Derived.Test.Qxb6619357aDigits
namespace Go.Proofs.Qxb6619357a
open Go.RowKit

set_option maxHeartbeats 400000 in
theorem l5_far (a : Option Addr) (len cap : Nat) (p c : Int) (w : World) (h : 65536 < len) :
    Calls Try.prog 5 #[.slice a len cap, .int .i64 p, .int .u8 c] w fun e w' => e = .returned (.bool true) ∧ Below w.heap.size w w' := by
  go_enter Try.func5, Try.ntmps5
  go_wp2
  all_goals (go_ret; exact ⟨rfl, Below.refl _ _⟩)

set_option maxHeartbeats 400000 in
theorem l5_out (a : Option Addr) (len cap : Nat) (p c : Int) (w : World) (hl : len ≤ 65536) (h : p < 0 ∨ (len : Int) < p) :
    Calls Try.prog 5 #[.slice a len cap, .int .i64 p, .int .u8 c] w fun e w' => e = .returned (.bool true) ∧ Below w.heap.size w w' := by
  by_cases h1 : p < 0
  · go_enter Try.func5, Try.ntmps5
    go_wp2
    all_goals (go_ret; exact ⟨rfl, Below.refl _ _⟩)
  · have h2 : (len : Int) < p := by omega
    go_enter Try.func5, Try.ntmps5
    go_wp2
    all_goals (go_ret; exact ⟨rfl, Below.refl _ _⟩)

/-- What the law comes to, in plain numbers. -/
theorem l5_cases (zs : List Int) (len p n n0 ng : Nat) (c : Int) (hpl : p ≤ len) (hlz : len ≤ zs.length)
    (hn : n = runLen digitB (zs.take len) p) (hn0 : n0 = runLen digitB (zs.take p) p) (hng : ng = runLen digitB ((insL zs len p c).take (len + 1)) p) :
    p + n ≤ len ∧ n0 ≤ 0 ∧ ((digitB c = true ∧ ng ≤ n + 1 ∧ n + 1 ≤ ng) ∨ (digitB c = false ∧ ng ≤ 0)) := by
  have h0 := runLen_end digitB (zs.take p) p (by simp; omega)
  have h1 := runLen_le digitB (zs.take len) p (by simp; omega)
  have h2 := run_ins digitB zs len p c hlz hpl
  simp at h1
  cases hb : digitB c with
  | true => rw [if_pos hb] at h2; exact ⟨by omega, by omega, .inl ⟨rfl, by omega, by omega⟩⟩
  | false => rw [if_neg (by simp [hb])] at h2; exact ⟨by omega, by omega, .inr ⟨rfl, by omega⟩⟩

set_option maxHeartbeats 1000000 in
theorem l5_some (x : Addr) (len cap : Nat) (zs : List Int) (p : Nat) (c : Int) (w : World) (hl : len ≤ 65536) (hpl : p ≤ len) (hlz : len ≤ zs.length)
    (hcell : ∀ i, i < zs.length → w.cell? (x.add i) = some (.int .u8 (zs.getD i 0))) :
    Calls Try.prog 5 #[.slice (some x) len cap, .int .i64 p, .int .u8 c] w fun e w' => e = .returned (.bool true) ∧ Below w.heap.size w w' := by
  obtain ⟨w2, hcp, HB, hb2, hs2⟩ := run_copy_bytes w len cap x zs hlz hcell
  clear hcell
  have hq := fun w => run_neq_slice_nil_any (P := Try.prog) w 22 5 (some x) len cap 0 0 Try.underlying22
  have hmk := run_make_row' (P := Try.prog) 22 5 (.int .u8 0) 1 Try.underlying22 Try.info5 rfl .i64 .i64 len (by omega) (by omega)
  obtain ⟨n, e1⟩ : ∃ q, q = runLen digitB (zs.take len) p := ⟨_, rfl⟩
  obtain ⟨n0, e2⟩ : ∃ q, q = runLen digitB (zs.take p) p := ⟨_, rfl⟩
  obtain ⟨ng, e3⟩ : ∃ q, q = runLen digitB ((insL zs len p c).take (len + 1)) p := ⟨_, rfl⟩
  obtain ⟨k1, k2, hcase⟩ := l5_cases zs len p n n0 ng c hpl hlz e1 e2 e3
  obtain ⟨q, f1⟩ : ∃ q, q = p + n := ⟨_, rfl⟩
  obtain ⟨q0, f2⟩ : ∃ q, q = p + n0 := ⟨_, rfl⟩
  obtain ⟨qg, f3⟩ : ∃ q, q = p + ng := ⟨_, rfl⟩
  have i1 : q ≤ p + n := by omega
  have i2 : p + n ≤ q := by omega
  have i3 : q0 ≤ p + n0 := by omega
  have i4 : p + n0 ≤ q0 := by omega
  have i5 : qg ≤ p + ng := by omega
  have i6 : p + ng ≤ qg := by omega
  have E1 : Hid (n = runLen digitB (zs.take len) p) := e1
  have E2 : Hid (n0 = runLen digitB (zs.take p) p) := e2
  have E3 : Hid (ng = runLen digitB ((insL zs len p c).take (len + 1)) p) := e3
  have F1 : Hid (q = p + n) := f1
  have F2 : Hid (q0 = p + n0) := f2
  have F3 : Hid (qg = p + ng) := f3
  clear e1 e2 e3 f1 f2 f3
  rcases hcase with ⟨c1, c2, c3⟩ | ⟨c1, c2⟩
  · go_enter Try.func5, Try.ntmps5
    go_wp2_with (go_at_call 13; go_in)
    refine (zzDigits_is _ _ _ _ zs n q E1 F1 _ (by omega) (by omega) HB).mono ?_
    rintro e w3 ⟨rfl, hb3⟩
    go_wp2_with fail
    refine (zzDigits_is _ _ _ _ zs n0 q0 E2 F2 _ (by omega) (by omega) ((HB.below hb3).cut _ (by omega))).mono ?_
    rintro e w4 ⟨rfl, hb4⟩
    have HB4 := (HB.below hb3).below hb4
    go_wp2_with fail
    refine (insert_is _ _ _ _ zs _ _ (by omega) (by omega) HB4).mono ?_
    rintro e w5 ⟨rfl, HG, hb5⟩
    go_wp2_with fail
    refine (zzDigits_is _ _ _ _ (insL zs len p c) ng qg E3 F3 _ (by omega) (by omega) HG).mono ?_
    rintro e w6 ⟨rfl, hb6⟩
    go_wp2_with (go_at_call 15; refine (digit_any _ _).mono ?_; rintro e w7 ⟨rfl, rfl⟩)
    go_ret
    refine ⟨?_, below_next (below_next (below_next (below_next hb2 hb3) hb4) hb5) hb6⟩
    first | rfl | (simp; done) | (simp; omega)
  · go_enter Try.func5, Try.ntmps5
    go_wp2_with (go_at_call 13; go_in)
    refine (zzDigits_is _ _ _ _ zs n q E1 F1 _ (by omega) (by omega) HB).mono ?_
    rintro e w3 ⟨rfl, hb3⟩
    go_wp2_with fail
    refine (zzDigits_is _ _ _ _ zs n0 q0 E2 F2 _ (by omega) (by omega) ((HB.below hb3).cut _ (by omega))).mono ?_
    rintro e w4 ⟨rfl, hb4⟩
    have HB4 := (HB.below hb3).below hb4
    go_wp2_with fail
    refine (insert_is _ _ _ _ zs _ _ (by omega) (by omega) HB4).mono ?_
    rintro e w5 ⟨rfl, HG, hb5⟩
    go_wp2_with fail
    refine (zzDigits_is _ _ _ _ (insL zs len p c) ng qg E3 F3 _ (by omega) (by omega) HG).mono ?_
    rintro e w6 ⟨rfl, hb6⟩
    go_wp2_with (go_at_call 15; refine (digit_any _ _).mono ?_; rintro e w7 ⟨rfl, rfl⟩)
    go_ret
    refine ⟨?_, below_next (below_next (below_next (below_next hb2 hb3) hb4) hb5) hb6⟩
    first | rfl | (simp; done) | (simp; omega)

set_option maxHeartbeats 1000000 in
theorem l5_nil (c : Int) (w : World) :
    Calls Try.prog 5 #[.slice none 0 0, .int .i64 (0 : Nat), .int .u8 c] w fun e w' => e = .returned (.bool true) ∧ Below w.heap.size w w' := by
  have hq := fun w => run_neq_slice_nil_any (P := Try.prog) w 22 5 none 0 0 0 0 Try.underlying22
  obtain ⟨zs, len, p, hzs, hle, hp⟩ : ∃ (zs : List Int) (len p : Nat), zs = [] ∧ len = 0 ∧ p = 0 := ⟨_, _, _, rfl, rfl, rfl⟩
  have hlz : len ≤ zs.length := by omega
  have hpl : p ≤ len := by omega
  obtain ⟨n, e1⟩ : ∃ q, q = runLen digitB (zs.take len) p := ⟨_, rfl⟩
  obtain ⟨n0, e2⟩ : ∃ q, q = runLen digitB (zs.take p) p := ⟨_, rfl⟩
  obtain ⟨ng, e3⟩ : ∃ q, q = runLen digitB ((insL zs len p c).take (len + 1)) p := ⟨_, rfl⟩
  obtain ⟨k1, k2, hcase⟩ := l5_cases zs len p n n0 ng c hpl hlz e1 e2 e3
  obtain ⟨q, f1⟩ : ∃ q, q = p + n := ⟨_, rfl⟩
  obtain ⟨q0, f2⟩ : ∃ q, q = p + n0 := ⟨_, rfl⟩
  obtain ⟨qg, f3⟩ : ∃ q, q = p + ng := ⟨_, rfl⟩
  have i1 : q ≤ p + n := by omega
  have i2 : p + n ≤ q := by omega
  have i3 : q0 ≤ p + n0 := by omega
  have i4 : p + n0 ≤ q0 := by omega
  have i5 : qg ≤ p + ng := by omega
  have i6 : p + ng ≤ qg := by omega
  have E1 : Hid (n = runLen digitB (zs.take len) p) := e1
  have E2 : Hid (n0 = runLen digitB (zs.take p) p) := e2
  have E3 : Hid (ng = runLen digitB ((insL zs len p c).take (len + 1)) p) := e3
  have F1 : Hid (q = p + n) := f1
  have F2 : Hid (q0 = p + n0) := f2
  have F3 : Hid (qg = p + ng) := f3
  clear e1 e2 e3 f1 f2 f3
  subst hp; subst hle; subst hzs
  have HB := bytes_nil w
  rcases hcase with ⟨c1, c2, c3⟩ | ⟨c1, c2⟩
  · go_enter Try.func5, Try.ntmps5
    go_wp2_with (go_at_call 13; go_in)
    refine (zzDigits_is _ _ _ _ [] n q E1 F1 _ (by omega) (by omega) HB).mono ?_
    rintro e w3 ⟨rfl, hb3⟩
    go_wp2_with fail
    refine (zzDigits_is _ _ _ _ [] n0 q0 E2 F2 _ (by omega) (by omega) ((HB.below hb3).cut _ (by omega))).mono ?_
    rintro e w4 ⟨rfl, hb4⟩
    have HB4 := (HB.below hb3).below hb4
    go_wp2_with fail
    refine (insert_is _ _ _ _ [] _ _ (by omega) (by omega) HB4).mono ?_
    rintro e w5 ⟨rfl, HG, hb5⟩
    go_wp2_with fail
    refine (zzDigits_is _ _ _ _ (insL [] 0 0 c) ng qg E3 F3 _ (by omega) (by omega) HG).mono ?_
    rintro e w6 ⟨rfl, hb6⟩
    go_wp2_with (go_at_call 15; refine (digit_any _ _).mono ?_; rintro e w7 ⟨rfl, rfl⟩)
    go_ret
    refine ⟨?_, below_next (below_next (below_next hb3 hb4) hb5) hb6⟩
    first | rfl | (simp; done) | (simp; omega)
  · go_enter Try.func5, Try.ntmps5
    go_wp2_with (go_at_call 13; go_in)
    refine (zzDigits_is _ _ _ _ [] n q E1 F1 _ (by omega) (by omega) HB).mono ?_
    rintro e w3 ⟨rfl, hb3⟩
    go_wp2_with fail
    refine (zzDigits_is _ _ _ _ [] n0 q0 E2 F2 _ (by omega) (by omega) ((HB.below hb3).cut _ (by omega))).mono ?_
    rintro e w4 ⟨rfl, hb4⟩
    have HB4 := (HB.below hb3).below hb4
    go_wp2_with fail
    refine (insert_is _ _ _ _ [] _ _ (by omega) (by omega) HB4).mono ?_
    rintro e w5 ⟨rfl, HG, hb5⟩
    go_wp2_with fail
    refine (zzDigits_is _ _ _ _ (insL [] 0 0 c) ng qg E3 F3 _ (by omega) (by omega) HG).mono ?_
    rintro e w6 ⟨rfl, hb6⟩
    go_wp2_with (go_at_call 15; refine (digit_any _ _).mono ?_; rintro e w7 ⟨rfl, rfl⟩)
    go_ret
    refine ⟨?_, below_next (below_next (below_next hb3 hb4) hb5) hb6⟩
    first | rfl | (simp; done) | (simp; omega)
end Go.Proofs.Qxb6619357a
