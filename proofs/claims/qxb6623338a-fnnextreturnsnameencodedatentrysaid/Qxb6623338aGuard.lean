/-
  The guard zzBytes: it returns a bool; where it is true every page is short.
-/
import Derived.Test.Qxb6623338aLeaf
namespace Go.Proofs.Qxb6623338a
open Go.RowKit

def Guard (e : Ending) (len : Nat) (L : Nat → Nat) : Prop := ∃ b, e = .returned (.bool b) ∧ (b = true → len ≤ 1048576 ∧ ∀ r, r < len → L r ≤ 1048576)

theorem guard_no (len : Nat) (L : Nat → Nat) : Guard (.returned (.bool false)) len L := ⟨false, rfl, fun h => by simp at h⟩
theorem guard_yes (len : Nat) (L : Nat → Nat) (h : len ≤ 1048576) (h' : ∀ r, r < len → L r ≤ 1048576) : Guard (.returned (.bool true)) len L := ⟨true, rfl, fun _ => ⟨h, h'⟩⟩

set_option maxHeartbeats 1000000 in
theorem bytes_any (a : Option Addr) (len cap : Nat) (A : Nat → Option Addr) (L C : Nat → Nat) (Z : Nat → Nat → Int) (n at_ en left entry : Int) (w : World) (hP : Pages w a len A L C Z) :
    Calls Try.prog 4 #[.slice a len cap, .int .i64 n, .int .i64 at_, .int .i64 en, .int .i64 left, .int .i64 entry] w fun e w' => Guard e len L ∧ w = w' := by
  by_cases hlen : len ≤ 1048576
  · go_enter Try.func4, Try.ntmps4
    go_wp2
    all_goals first | (go_ret; exact ⟨guard_no _ _, rfl⟩) | skip
    go_loop [13, 14] (fun t i => ∃ k : Nat, k ≤ len ∧ i = .int .i64 k ∧ (∃ m : Int, t = .int .i64 m) ∧ Hid (∀ r, r < k → L r ≤ 1048576)) (fun _ i => len - (intOf i).toNat)
    case atStart => exact ⟨0, Nat.zero_le _, rfl, ⟨_, rfl⟩, fun r hr => absurd hr (Nat.not_lt_zero _)⟩
    case round =>
      obtain ⟨k, hk, rfl, ⟨m, rfl⟩, hB⟩ := hrel
      by_cases hlt : k < len
      · obtain ⟨b, off, rfl, hb, hc, hR⟩ := hP.at k hlt
        obtain ⟨l, hl⟩ : ∃ l, l = L k := ⟨_, rfl⟩
        rw [← hl] at hc
        have HL : Hid (l = L k) := hl
        clear hl hR
        go_wp2
        all_goals first | (go_ret; exact ⟨guard_no _ _, rfl⟩) | skip
        go_round
        case rel =>
          refine ⟨k + 1, by omega, by go_num, ⟨_, rfl⟩, fun r hr => ?_⟩
          by_cases e : r = k
          · subst e; rw [← HL.out]; omega
          · exact hB.out r (by omega)
        case measure => simp [intOf]; omega
      · obtain rfl : k = len := by omega
        go_wp2
        go_ret
        exact ⟨guard_yes _ _ hlen hB.out, rfl⟩
  · go_enter Try.func4, Try.ntmps4
    go_wp2
    go_ret
    exact ⟨guard_no _ _, rfl⟩
end Go.Proofs.Qxb6623338a
