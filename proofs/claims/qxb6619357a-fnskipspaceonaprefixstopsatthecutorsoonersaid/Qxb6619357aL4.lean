import Derived.Test.Qxb6619357aShared
namespace Go.Proofs.Qxb6619357a
open Go.RowKit

set_option maxHeartbeats 400000 in
theorem l4_far (a : Option Addr) (len cap : Nat) (p c : Int) (w : World) (h : 65536 < len) :
    Calls Try.prog 4 #[.slice a len cap, .int .i64 p, .int .i64 c] w fun e w' => e = .returned (.bool true) ∧ Below w.heap.size w w' := by
  go_enter Try.func4, Try.ntmps4
  go_wp2
  all_goals (go_ret; exact ⟨rfl, Below.refl _ _⟩)

set_option maxHeartbeats 400000 in
theorem l4_out (a : Option Addr) (len cap : Nat) (p c : Int) (w : World) (hl : len ≤ 65536) (h : p < 0 ∨ (len : Int) < p ∨ c < p ∨ (len : Int) < c) :
    Calls Try.prog 4 #[.slice a len cap, .int .i64 p, .int .i64 c] w fun e w' => e = .returned (.bool true) ∧ Below w.heap.size w w' := by
  by_cases h1 : p < 0
  · go_enter Try.func4, Try.ntmps4
    go_wp2
    all_goals (go_ret; exact ⟨rfl, Below.refl _ _⟩)
  by_cases h2 : (len : Int) < p
  · go_enter Try.func4, Try.ntmps4
    go_wp2
    all_goals (go_ret; exact ⟨rfl, Below.refl _ _⟩)
  by_cases h3 : c < p
  · go_enter Try.func4, Try.ntmps4
    go_wp2
    all_goals (go_ret; exact ⟨rfl, Below.refl _ _⟩)
  · have h4 : (len : Int) < c := by omega
    go_enter Try.func4, Try.ntmps4
    go_wp2
    all_goals (go_ret; exact ⟨rfl, Below.refl _ _⟩)

/-- What the law comes to, in plain numbers. -/
theorem l4_cases (zs : List Int) (len p c q qc : Nat) (z : Int) (hpl : p ≤ len) (hpc : p ≤ c) (hcl : c ≤ len) (hlz : len ≤ zs.length) (hz : z = zs.getD p 0)
    (hq : q = p + runLen blankB (zs.take len) p) (hqc : qc = p + runLen blankB (zs.take c) p) :
    (p = len ∧ q = p ∧ qc = p ∧ c = p) ∨ (p < len ∧ blankB z = false ∧ q = p ∧ qc = p) ∨ (p < len ∧ blankB z = true ∧ p < q ∧ q ≤ c ∧ qc = q) ∨ (p < len ∧ blankB z = true ∧ p < q ∧ c < q ∧ qc = c) := by
  have hcut := runLen_cut blankB zs p c len hcl
  by_cases h : p < len
  · cases hb : blankB z with
    | false =>
      have h0 := runLen_zero blankB zs len p hlz h (by rw [← hz]; exact hb)
      exact .inr (.inl ⟨h, rfl, by omega, by omega⟩)
    | true =>
      have h0 := runLen_pos blankB zs len p hlz h (by rw [← hz]; exact hb)
      by_cases h2 : q ≤ c
      · exact .inr (.inr (.inl ⟨h, rfl, by omega, h2, by omega⟩))
      · exact .inr (.inr (.inr ⟨h, rfl, by omega, by omega, by omega⟩))
  · have h0 := runLen_end blankB (zs.take len) p (by simp; omega)
    exact .inl ⟨by omega, by omega, by omega, by omega⟩

set_option maxHeartbeats 1000000 in
theorem l4_some (x : Addr) (len cap : Nat) (zs : List Int) (p c : Nat) (w : World) (hl : len ≤ 65536) (hpl : p ≤ len) (hpc : p ≤ c) (hcl : c ≤ len) (hlz : len ≤ zs.length)
    (hcell : ∀ i, i < zs.length → w.cell? (x.add i) = some (.int .u8 (zs.getD i 0))) :
    Calls Try.prog 4 #[.slice (some x) len cap, .int .i64 p, .int .i64 c] w fun e w' => e = .returned (.bool true) ∧ Below w.heap.size w w' := by
  obtain ⟨w2, hcp, HB, hb2, hs2⟩ := run_copy_bytes w len cap x zs hlz hcell
  clear hcell
  have hq := fun w => run_neq_slice_nil_any (P := Try.prog) w 22 5 (some x) len cap 0 0 Try.underlying22
  have hmk := run_make_row' (P := Try.prog) 22 5 (.int .u8 0) 1 Try.underlying22 Try.info5 rfl .i64 .i64 len (by omega) (by omega)
  obtain ⟨z, hz⟩ : ∃ z, z = zs.getD p 0 := ⟨_, rfl⟩
  obtain ⟨q, e1⟩ : ∃ q, q = p + runLen blankB (zs.take len) p := ⟨_, rfl⟩
  obtain ⟨qc, e2⟩ : ∃ q, q = p + runLen blankB (zs.take c) p := ⟨_, rfl⟩
  have hcase := l4_cases zs len p c q qc z hpl hpc hcl hlz hz e1 e2
  have E1 : Hid (q = p + runLen blankB (zs.take len) p) := e1
  have E2 : Hid (qc = p + runLen blankB (zs.take c) p) := e2
  have HZ : Hid (z = zs.getD p 0) := hz
  clear e1 e2 hz
  have hql : q ≤ len := by have := runLen_le blankB (zs.take len) p (by simp; omega); have := E1.out; simp at *; omega
  rcases hcase with ⟨c1, c2, c3, c4⟩ | ⟨c1, c2, c3, c4⟩ | ⟨c1, c2, c3, c4, c5⟩ | ⟨c1, c2, c3, c4, c5⟩
  · subst c2; subst c3; subst c4; subst c1
    go_enter Try.func4, Try.ntmps4
    go_wp2_with (go_at_call 12; go_in)
    refine (zzSkip_is _ _ _ _ zs _ E1 _ (by omega) (by omega) HB).mono ?_
    rintro e w3 ⟨rfl, hb3⟩
    go_wp2_with fail
    refine (zzSkip_is _ _ _ _ zs _ E2 _ (by omega) (by omega) (HB.below hb3)).mono ?_
    rintro e w4 ⟨rfl, hb4⟩
    go_wp2
    go_ret
    exact ⟨rfl, below_next (below_next hb2 hb3) hb4⟩
  · subst c3; subst c4
    go_enter Try.func4, Try.ntmps4
    go_wp2_with (go_at_call 12; go_in)
    refine (zzSkip_is _ _ _ _ zs _ E1 _ (by omega) (by omega) HB).mono ?_
    rintro e w3 ⟨rfl, hb3⟩
    go_wp2_with fail
    refine (zzSkip_is _ _ _ _ zs _ E2 _ (by omega) (by omega) ((HB.below hb3).cut _ (by omega))).mono ?_
    rintro e w4 ⟨rfl, hb4⟩
    have hc4 : w4.cell? ⟨w.heap.size, qc, none⟩ = some (.int .u8 z) := ((HB.below hb3).below hb4).head _ c1 HZ.out
    go_wp2_with (go_at_call 11; refine (blank_any _ _).mono ?_; rintro e w5 ⟨rfl, rfl⟩)
    go_ret
    exact ⟨rfl, below_next (below_next hb2 hb3) hb4⟩
  · subst c5
    go_enter Try.func4, Try.ntmps4
    go_wp2_with (go_at_call 12; go_in)
    refine (zzSkip_is _ _ _ _ zs _ E1 _ (by omega) (by omega) HB).mono ?_
    rintro e w3 ⟨rfl, hb3⟩
    go_wp2_with fail
    refine (zzSkip_is _ _ _ _ zs _ E2 _ (by omega) (by omega) ((HB.below hb3).cut _ (by omega))).mono ?_
    rintro e w4 ⟨rfl, hb4⟩
    have hc4 : w4.cell? ⟨w.heap.size, p, none⟩ = some (.int .u8 z) := ((HB.below hb3).below hb4).head _ c1 HZ.out
    go_wp2_with (go_at_call 11; refine (blank_any _ _).mono ?_; rintro e w5 ⟨rfl, rfl⟩)
    go_ret
    exact ⟨rfl, below_next (below_next hb2 hb3) hb4⟩
  · subst c5
    go_enter Try.func4, Try.ntmps4
    go_wp2_with (go_at_call 12; go_in)
    refine (zzSkip_is _ _ _ _ zs _ E1 _ (by omega) (by omega) HB).mono ?_
    rintro e w3 ⟨rfl, hb3⟩
    go_wp2_with fail
    refine (zzSkip_is _ _ _ _ zs _ E2 _ (by omega) (by omega) ((HB.below hb3).cut _ (by omega))).mono ?_
    rintro e w4 ⟨rfl, hb4⟩
    have hc4 : w4.cell? ⟨w.heap.size, p, none⟩ = some (.int .u8 z) := ((HB.below hb3).below hb4).head _ c1 HZ.out
    go_wp2_with (go_at_call 11; refine (blank_any _ _).mono ?_; rintro e w5 ⟨rfl, rfl⟩)
    go_ret
    exact ⟨rfl, below_next (below_next hb2 hb3) hb4⟩

set_option maxHeartbeats 400000 in
theorem l4_nil (w : World) :
    Calls Try.prog 4 #[.slice none 0 0, .int .i64 0, .int .i64 0] w fun e w' => e = .returned (.bool true) ∧ Below w.heap.size w w' := by
  have hq := fun w => run_neq_slice_nil_any (P := Try.prog) w 22 5 none 0 0 0 0 Try.underlying22
  go_enter Try.func4, Try.ntmps4
  go_wp2_with (go_at_call 12; go_in)
  refine (zzSkip_is none 0 0 0 [] 0 rfl _ (by omega) (by omega) (bytes_nil _)).mono ?_
  rintro e w3 ⟨rfl, hb3⟩
  go_wp2_with fail
  refine (zzSkip_is none 0 0 0 [] 0 rfl _ (by omega) (by omega) (bytes_nil _)).mono ?_
  rintro e w4 ⟨rfl, hb4⟩
  go_wp2
  go_ret
  exact ⟨rfl, below_next hb3 hb4⟩
end Go.Proofs.Qxb6619357a
