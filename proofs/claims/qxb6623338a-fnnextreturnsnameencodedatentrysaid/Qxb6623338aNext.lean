/-
  The contracts of (*sortedNames).next and ZZSortedNamesNext.
-/
import Derived.Test.Qxb6623338aUv
namespace Go.Proofs.Qxb6623338a
open Go.RowKit

set_option maxHeartbeats 1000000 in
theorem next_any (S M : Nat) (at_ left : Int) (a : Option Addr) (len cap : Nat) (A : Nat → Option Addr) (L C : Nat → Nat) (Z : Nat → Nat → Int) (entry k : Nat) (c : Nat → Int) (w : World) (hj : entry + 9 ≤ 1000000000) (hL : ∀ r, L r ≤ 9223372036854775807)
    (hk : 0 < k) (hk9 : k ≤ 9) (hP : Pages w a len A L C Z) (hh : ∀ i, i < k → Has len L Z (entry + i) (c i)) (hr : ∀ i, 0 ≤ c i ∧ c i ≤ 255) (hgo : ∀ i, i + 1 < k → 128 ≤ c i) (hend : c (k - 1) < 128)
    (hm : w.cell? ⟨M, 2, none⟩ = some (.slice a len cap)) (h0 : w.cell? ⟨S, 0, none⟩ = some (.pointer (some ⟨M, 0, none⟩))) (h1 : w.cell? ⟨S, 1, none⟩ = some (.int .i64 at_)) (h3 : w.cell? ⟨S, 3, none⟩ = some (.int .i64 left)) (h4 : w.cell? ⟨S, 4, none⟩ = some (.int .i64 entry))
    (f3 : w.frozen? ⟨S, 3, none⟩ = false) (f4 : w.frozen? ⟨S, 4, none⟩ = false) :
    Calls Try.prog 7 #[.pointer (some ⟨S, 0, none⟩)] w fun e w' => e = .returned (.int .i64 (wrap64 (at_ + val c k))) ∧ w'.cell? ⟨S, 3, none⟩ = some (.int .i64 (wrap64 (left - 1))) ∧ w'.cell? ⟨S, 4, none⟩ = some (.int .i64 ((entry : Int) + k)) ∧ Below S w w' := by
  obtain ⟨v, hv⟩ : ∃ v, v = val c k := ⟨_, rfl⟩
  have kc : ∀ w, Pages w a len A L C Z → w.cell? ⟨M, 2, none⟩ = some (.slice a len cap) → Calls Try.prog 8 #[.pointer (some ⟨M, 0, none⟩), .int .i64 entry] w fun e w' => e = .returned (.tuple #[.int .i64 v, .int .i64 ((entry : Int) + k)]) ∧ w' = w := by
    intro w hP hm
    rw [hv]
    exact (uvarint_any M a len cap A L C Z entry k c w hj hL hk hk9 hP hh hr hgo hend hm).mono fun e w' ⟨he, hw⟩ => ⟨by rw [he]; rfl, hw.symm⟩
  have KC : Hid (∀ w, Pages w a len A L C Z → w.cell? ⟨M, 2, none⟩ = some (.slice a len cap) → Calls Try.prog 8 #[.pointer (some ⟨M, 0, none⟩), .int .i64 entry] w fun e w' => e = .returned (.tuple #[.int .i64 v, .int .i64 ((entry : Int) + k)]) ∧ w' = w) := kc
  rw [← hv]
  clear kc hv hh hr hgo hend hL
  go_enter Try.func7, Try.ntmps7
  go_wp2
  go_quiet ((go_at_call 8; exact Calls.quiet_of_same (KC.out _ hP hm)))
  go_wp2
  go_ret
  exact ⟨rfl, by simp [go_sem, h3], by simp [go_sem, h4], ((below_drewN (Below.refl _ _) _).setCell (Nat.le_refl S) _).setCell (Nat.le_refl S) _⟩

set_option maxHeartbeats 1000000 in
theorem zzNext_any (n at_ en left : Int) (a : Option Addr) (len cap : Nat) (A : Nat → Option Addr) (L C : Nat → Nat) (Z : Nat → Nat → Int) (entry k : Nat) (c : Nat → Int) (v : Int) (hv : Hid (v = val c k)) (w : World) (hj : entry + 9 ≤ 1000000000) (hL : ∀ r, L r ≤ 9223372036854775807)
    (hk : 0 < k) (hk9 : k ≤ 9) (hP : Pages w a len A L C Z) (hh : ∀ i, i < k → Has len L Z (entry + i) (c i)) (hr : ∀ i, 0 ≤ c i ∧ c i ≤ 255) (hgo : ∀ i, i + 1 < k → 128 ≤ c i) (hend : c (k - 1) < 128) :
    Calls Try.prog 6 #[.slice a len cap, .int .i64 n, .int .i64 at_, .int .i64 en, .int .i64 left, .int .i64 entry] w fun e w' => e = .returned (.tuple #[.int .i64 (wrap64 (at_ + v)), .int .i64 (wrap64 (left - 1)), .int .i64 ((entry : Int) + k)]) ∧ Below w.heap.size w w' := by
  have HH : Hid (∀ i, i < k → Has len L Z (entry + i) (c i)) := hh
  have HR : Hid (∀ i, 0 ≤ c i ∧ c i ≤ 255) := hr
  have HG : Hid ((∀ i, i + 1 < k → 128 ≤ c i) ∧ c (k - 1) < 128) := ⟨hgo, hend⟩
  clear hh hr hgo hend
  have hb : ∀ o1 o2, Below w.heap.size w ((w.alloc o1).alloc o2) := fun o1 o2 => ((Below.refl _ _).alloc (Nat.le_refl _) _).alloc (by simp) _
  go_enter Try.func6, Try.ntmps6
  go_wp2_with fail
  refine (next_any (w.heap.size + 1) w.heap.size at_ left a len cap A L C Z entry k c _ hj hL hk hk9 (hP.below (hb _ _)) HH.out HR.out HG.out.1 HG.out.2 (by simp [go_sem]) (by simp [go_sem]) (by simp [go_sem]) (by simp [go_sem]) (by simp [go_sem]) (by simp [go_sem]) (by simp [go_sem])).mono ?_
  rw [← hv.out]
  rintro e w' ⟨rfl, g3, g4, hb2⟩
  go_wp2
  go_quiet (fail)
  go_wp2
  go_ret3
  exact ⟨rfl, below_drewN ((hb _ _).trans (hb2.mono (by omega))) _⟩
end Go.Proofs.Qxb6623338a
