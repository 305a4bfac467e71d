/-
  The contract of (*memberOrder).uvarint.
-/
import Derived.Test.Qxb6623338aLeaf
import Derived.Test.Qxb6623338aPlain
namespace Go.Proofs.Qxb6623338a
open Go.RowKit

set_option maxHeartbeats 1000000 in
theorem uvarint_any (M : Nat) (a : Option Addr) (len cap : Nat) (A : Nat → Option Addr) (L C : Nat → Nat) (Z : Nat → Nat → Int) (entry k : Nat) (c : Nat → Int) (w : World) (hj : entry + 9 ≤ 1000000000) (hL : ∀ r, L r ≤ 9223372036854775807)
    (hk : 0 < k) (hk9 : k ≤ 9) (hP : Pages w a len A L C Z) (hh : ∀ i, i < k → Has len L Z (entry + i) (c i)) (hr : ∀ i, 0 ≤ c i ∧ c i ≤ 255) (hgo : ∀ i, i + 1 < k → 128 ≤ c i) (hend : c (k - 1) < 128)
    (hm : w.cell? ⟨M, 2, none⟩ = some (.slice a len cap)) :
    Calls Try.prog 8 #[.pointer (some ⟨M, 0, none⟩), .int .i64 entry] w fun e w' => e = .returned (.tuple #[.int .i64 (val c k), .int .i64 ((entry + k : Nat) : Int)]) ∧ w = w' := by
  have HH : Hid (∀ i, i < k → Has len L Z (entry + i) (c i)) := hh
  have HR : Hid (∀ i, 0 ≤ c i ∧ c i ≤ 255) := hr
  have HG : Hid ((∀ i, i + 1 < k → 128 ≤ c i) ∧ c (k - 1) < 128) := ⟨hgo, hend⟩
  clear hh hr hgo hend
  go_enter Try.func8, Try.ntmps8
  go_wp2
  go_loop [1, 4, 6] (fun i v sh => ∃ j : Nat, j < k ∧ i = .int .i64 ((entry + j : Nat) : Int) ∧ sh = .int .i64 ((7 * j : Nat) : Int) ∧ v = .int .i64 (val c j)) (fun i _ _ => entry + k - (intOf i).toNat)
  case atStart => exact ⟨0, hk, rfl, rfl, rfl⟩
  case round =>
    obtain ⟨j, hjk, rfl, rfl, rfl⟩ := hrel
    obtain ⟨x, hx⟩ : ∃ x, x = c j := ⟨_, rfl⟩
    have hx1 : 0 ≤ x := by rw [hx]; exact (HR.out j).1
    have hx2 : x ≤ 255 := by rw [hx]; exact (HR.out j).2
    have hmask : bits .and .u8 x 127 = x % 128 := u8_and127 x hx1 (by omega)
    have HX : Hid (x = c j) := hx
    have hhj : Has len L Z (entry + j) x := by rw [hx]; exact HH.out j hjk
    obtain ⟨v, hv⟩ : ∃ v, v = val c j := ⟨_, rfl⟩
    rw [← hv]
    have HV : Hid (v = val c j) := hv
    clear hx hv
    by_cases hl : j + 1 < k
    · have hge : 128 ≤ x := by rw [HX.out]; exact HG.out.1 j hl
      go_wp2_with (go_at_call 9; refine (at_any M 2 a len cap A L C Z _ x _ ?_ hL hP hhj hm).mono ?_; omega; rintro e w' ⟨⟨b, p, rfl, hcx⟩, rfl⟩)
      go_round
      case rel => exact ⟨j + 1, hl, by go_num, by go_num, by rw [HV.out, HX.out, or_step c j (by omega)]⟩
      case measure => simp [intOf]; omega
    · obtain rfl : k = j + 1 := by omega
      have hlt : x < 128 := by rw [HX.out]; exact HG.out.2
      go_wp2_with (go_at_call 9; refine (at_any M 2 a len cap A L C Z _ x _ ?_ hL hP hhj hm).mono ?_; omega; rintro e w' ⟨⟨b, p, rfl, hcx⟩, rfl⟩)
      go_ret2
      refine ⟨?_, rfl⟩
      rw [← or_step c j (by omega), ← HV.out, ← HX.out]
      rfl
end Go.Proofs.Qxb6623338a
