/-
  The walk of FnAcceptTakesExactlyTheBytePutInAtThePosition.
-/
import Derived.Test.Qxb6619357aInsert
import Derived.Test.Qxb6619357aAccept
namespace Go.Proofs.Qxb6619357a
open Go.RowKit

set_option maxHeartbeats 400000 in
theorem l7_far (a : Option Addr) (len cap : Nat) (p c d : Int) (w : World) (h : 65536 < len) :
    Calls Try.prog 7 #[.slice a len cap, .int .i64 p, .int .u8 c, .int .u8 d] w fun e w' => e = .returned (.bool true) ∧ Below w.heap.size w w' := by
  go_enter Try.func7, Try.ntmps7
  go_wp2
  all_goals (go_ret; exact ⟨rfl, Below.refl _ _⟩)

set_option maxHeartbeats 400000 in
theorem l7_out (a : Option Addr) (len cap : Nat) (p c d : Int) (w : World) (hl : len ≤ 65536) (h : p < 0 ∨ (len : Int) < p) :
    Calls Try.prog 7 #[.slice a len cap, .int .i64 p, .int .u8 c, .int .u8 d] w fun e w' => e = .returned (.bool true) ∧ Below w.heap.size w w' := by
  by_cases h1 : p < 0
  · go_enter Try.func7, Try.ntmps7
    go_wp2
    all_goals (go_ret; exact ⟨rfl, Below.refl _ _⟩)
  · have h2 : (len : Int) < p := by omega
    go_enter Try.func7, Try.ntmps7
    go_wp2
    all_goals (go_ret; exact ⟨rfl, Below.refl _ _⟩)

theorem insL_at (zs : List Int) (len pos : Nat) (c : Int) (hz : len ≤ zs.length) (hp : pos ≤ len) : c = (insL zs len pos c).getD pos 0 := by
  rw [insL_get zs len pos c hz hp pos (by omega)]; simp [insF]

set_option maxHeartbeats 1000000 in
theorem l7_some (x : Addr) (len cap : Nat) (zs : List Int) (p : Nat) (c d : Int) (w : World) (hl : len ≤ 65536) (hpl : p ≤ len) (hlz : len ≤ zs.length)
    (hcell : ∀ i, i < zs.length → w.cell? (x.add i) = some (.int .u8 (zs.getD i 0))) :
    Calls Try.prog 7 #[.slice (some x) len cap, .int .i64 p, .int .u8 c, .int .u8 d] w fun e w' => e = .returned (.bool true) ∧ Below w.heap.size w w' := by
  obtain ⟨w2, hcp, HB, hb2, hs2⟩ := run_copy_bytes w len cap x zs hlz hcell
  clear hcell
  have hq := fun w => run_neq_slice_nil_any (P := Try.prog) w 22 5 (some x) len cap 0 0 Try.underlying22
  have hmk := run_make_row' (P := Try.prog) 22 5 (.int .u8 0) 1 Try.underlying22 Try.info5 rfl .i64 .i64 len (by omega) (by omega)
  have HI : Hid (c = (insL zs len p c).getD p 0) := insL_at zs len p c hlz hpl
  have HD : Hid (d = (insL zs len p d).getD p 0) := insL_at zs len p d hlz hpl
  cases he : (d == c) with
  | true =>
    obtain rfl : c = d := by simpa using (by simpa using he : d = c).symm
    clear he
    by_cases hy : Hid (p < len ∧ c = zs.getD p 0)
    · obtain ⟨hy1, hy2⟩ := hy.out
      clear hy
      have hy : Hid (c = zs.getD p 0) := hy2
      clear hy2
      go_enter Try.func7, Try.ntmps7
      go_wp2_with (go_at_call 17; go_in)
      refine (zzAccept_yes _ _ _ _ zs _ _ (by omega) (by omega) HB hy).mono ?_
      rintro e w3 ⟨rfl, hb3⟩
      go_wp2_with fail
      refine (zzAccept_no _ _ _ _ zs _ _ (by omega) ((HB.below hb3).cut _ (by omega)) (.inl rfl)).mono ?_
      rintro e w4 ⟨rfl, hb4⟩
      have HB4 := (HB.below hb3).below hb4
      go_wp2_with fail
      refine (insert_is _ _ _ _ zs _ _ (by omega) (by omega) HB4).mono ?_
      rintro e w5 ⟨rfl, HG, hb5⟩
      go_wp2_with fail
      refine (zzAccept_yes _ _ _ _ (insL zs len p _) _ _ (by omega) (by omega) HG HI).mono ?_
      rintro e w6 ⟨rfl, hb6⟩
      go_wp2
      go_ret
      exact ⟨rfl, below_next (below_next (below_next (below_next hb2 hb3) hb4) hb5) hb6⟩
    · have hn : Hid (p = len ∨ (zs.getD p 0 == c) = false) := by
        by_cases h : p < len
        · right; simp only [beq_eq_false_iff_ne, ne_eq]; intro e; exact hy ⟨h, e.symm⟩
        · left; omega
      clear hy
      go_enter Try.func7, Try.ntmps7
      go_wp2_with (go_at_call 17; go_in)
      refine (zzAccept_no _ _ _ _ zs _ _ (by omega) HB hn.out).mono ?_
      rintro e w3 ⟨rfl, hb3⟩
      go_wp2_with fail
      refine (zzAccept_no _ _ _ _ zs _ _ (by omega) ((HB.below hb3).cut _ (by omega)) (.inl rfl)).mono ?_
      rintro e w4 ⟨rfl, hb4⟩
      have HB4 := (HB.below hb3).below hb4
      go_wp2_with fail
      refine (insert_is _ _ _ _ zs _ _ (by omega) (by omega) HB4).mono ?_
      rintro e w5 ⟨rfl, HG, hb5⟩
      go_wp2_with fail
      refine (zzAccept_yes _ _ _ _ (insL zs len p _) _ _ (by omega) (by omega) HG HI).mono ?_
      rintro e w6 ⟨rfl, hb6⟩
      go_wp2
      go_ret
      exact ⟨rfl, below_next (below_next (below_next (below_next hb2 hb3) hb4) hb5) hb6⟩
  | false =>
    by_cases hy : Hid (p < len ∧ c = zs.getD p 0)
    · obtain ⟨hy1, hy2⟩ := hy.out
      clear hy
      have hy : Hid (c = zs.getD p 0) := hy2
      clear hy2
      go_enter Try.func7, Try.ntmps7
      go_wp2_with (go_at_call 17; go_in)
      refine (zzAccept_yes _ _ _ _ zs _ _ (by omega) (by omega) HB hy).mono ?_
      rintro e w3 ⟨rfl, hb3⟩
      go_wp2_with fail
      refine (zzAccept_no _ _ _ _ zs _ _ (by omega) ((HB.below hb3).cut _ (by omega)) (.inl rfl)).mono ?_
      rintro e w4 ⟨rfl, hb4⟩
      have HB4 := (HB.below hb3).below hb4
      go_wp2_with fail
      refine (insert_is _ _ _ _ zs _ _ (by omega) (by omega) HB4).mono ?_
      rintro e w5 ⟨rfl, HG, hb5⟩
      go_wp2_with fail
      refine (zzAccept_yes _ _ _ _ (insL zs len p _) _ _ (by omega) (by omega) HG HI).mono ?_
      rintro e w6 ⟨rfl, hb6⟩
      have HB6 := (HB4.below hb5).below hb6
      go_wp2_with fail
      refine (insert_is _ _ _ _ zs _ _ (by omega) (by omega) HB6).mono ?_
      rintro e w7 ⟨rfl, HG7, hb7⟩
      go_wp2_with fail
      refine (zzAccept_no _ _ _ _ (insL zs len p d) _ _ (by omega) HG7 (.inr (by rw [← HD.out]; exact he))).mono ?_
      rintro e w8 ⟨rfl, hb8⟩
      go_wp2
      go_ret
      exact ⟨rfl, below_next (below_next (below_next (below_next (below_next (below_next hb2 hb3) hb4) hb5) hb6) hb7) hb8⟩
    · have hn : Hid (p = len ∨ (zs.getD p 0 == c) = false) := by
        by_cases h : p < len
        · right; simp only [beq_eq_false_iff_ne, ne_eq]; intro e; exact hy ⟨h, e.symm⟩
        · left; omega
      clear hy
      go_enter Try.func7, Try.ntmps7
      go_wp2_with (go_at_call 17; go_in)
      refine (zzAccept_no _ _ _ _ zs _ _ (by omega) HB hn.out).mono ?_
      rintro e w3 ⟨rfl, hb3⟩
      go_wp2_with fail
      refine (zzAccept_no _ _ _ _ zs _ _ (by omega) ((HB.below hb3).cut _ (by omega)) (.inl rfl)).mono ?_
      rintro e w4 ⟨rfl, hb4⟩
      have HB4 := (HB.below hb3).below hb4
      go_wp2_with fail
      refine (insert_is _ _ _ _ zs _ _ (by omega) (by omega) HB4).mono ?_
      rintro e w5 ⟨rfl, HG, hb5⟩
      go_wp2_with fail
      refine (zzAccept_yes _ _ _ _ (insL zs len p _) _ _ (by omega) (by omega) HG HI).mono ?_
      rintro e w6 ⟨rfl, hb6⟩
      have HB6 := (HB4.below hb5).below hb6
      go_wp2_with fail
      refine (insert_is _ _ _ _ zs _ _ (by omega) (by omega) HB6).mono ?_
      rintro e w7 ⟨rfl, HG7, hb7⟩
      go_wp2_with fail
      refine (zzAccept_no _ _ _ _ (insL zs len p d) _ _ (by omega) HG7 (.inr (by rw [← HD.out]; exact he))).mono ?_
      rintro e w8 ⟨rfl, hb8⟩
      go_wp2
      go_ret
      exact ⟨rfl, below_next (below_next (below_next (below_next (below_next (below_next hb2 hb3) hb4) hb5) hb6) hb7) hb8⟩

set_option maxHeartbeats 1000000 in
theorem l7_nil (c d : Int) (w : World) :
    Calls Try.prog 7 #[.slice none 0 0, .int .i64 (0 : Nat), .int .u8 c, .int .u8 d] w fun e w' => e = .returned (.bool true) ∧ Below w.heap.size w w' := by
  have hq := fun w => run_neq_slice_nil_any (P := Try.prog) w 22 5 none 0 0 0 0 Try.underlying22
  have HB := bytes_nil w
  have HI : Hid (c = (insL [] 0 0 c).getD 0 0) := insL_at [] 0 0 c (by simp) (by simp)
  have HD : Hid (d = (insL [] 0 0 d).getD 0 0) := insL_at [] 0 0 d (by simp) (by simp)
  cases he : (d == c) with
  | true =>
    obtain rfl : c = d := by simpa using (by simpa using he : d = c).symm
    clear he
    go_enter Try.func7, Try.ntmps7
    go_wp2_with (go_at_call 17; go_in)
    refine (zzAccept_no _ _ _ 0 [] _ _ (by omega) HB (.inl rfl)).mono ?_
    rintro e w3 ⟨rfl, hb3⟩
    go_wp2_with fail
    refine (zzAccept_no _ _ _ 0 [] _ _ (by omega) ((HB.below hb3).cut _ (by omega)) (.inl rfl)).mono ?_
    rintro e w4 ⟨rfl, hb4⟩
    have HB4 := (HB.below hb3).below hb4
    go_wp2_with fail
    refine (insert_is _ _ _ 0 [] _ _ (by omega) (by omega) HB4).mono ?_
    rintro e w5 ⟨rfl, HG, hb5⟩
    go_wp2_with fail
    refine (zzAccept_yes _ _ _ 0 (insL [] 0 0 _) _ _ (by omega) (by omega) HG HI).mono ?_
    rintro e w6 ⟨rfl, hb6⟩
    go_wp2
    go_ret
    exact ⟨rfl, below_next (below_next (below_next hb3 hb4) hb5) hb6⟩
  | false =>
    go_enter Try.func7, Try.ntmps7
    go_wp2_with (go_at_call 17; go_in)
    refine (zzAccept_no _ _ _ 0 [] _ _ (by omega) HB (.inl rfl)).mono ?_
    rintro e w3 ⟨rfl, hb3⟩
    go_wp2_with fail
    refine (zzAccept_no _ _ _ 0 [] _ _ (by omega) ((HB.below hb3).cut _ (by omega)) (.inl rfl)).mono ?_
    rintro e w4 ⟨rfl, hb4⟩
    have HB4 := (HB.below hb3).below hb4
    go_wp2_with fail
    refine (insert_is _ _ _ 0 [] _ _ (by omega) (by omega) HB4).mono ?_
    rintro e w5 ⟨rfl, HG, hb5⟩
    go_wp2_with fail
    refine (zzAccept_yes _ _ _ 0 (insL [] 0 0 _) _ _ (by omega) (by omega) HG HI).mono ?_
    rintro e w6 ⟨rfl, hb6⟩
    have HB6 := (HB4.below hb5).below hb6
    go_wp2_with fail
    refine (insert_is _ _ _ 0 [] _ _ (by omega) (by omega) HB6).mono ?_
    rintro e w7 ⟨rfl, HG7, hb7⟩
    go_wp2_with fail
    refine (zzAccept_no _ _ _ 0 (insL [] 0 0 d) _ _ (by omega) HG7 (.inr (by rw [← HD.out]; exact he))).mono ?_
    rintro e w8 ⟨rfl, hb8⟩
    go_wp2
    go_ret
    exact ⟨rfl, below_next (below_next (below_next (below_next (below_next hb3 hb4) hb5) hb6) hb7) hb8⟩
end Go.Proofs.Qxb6619357a
