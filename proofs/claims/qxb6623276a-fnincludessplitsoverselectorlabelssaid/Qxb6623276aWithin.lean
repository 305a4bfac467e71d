/-
  The two guards: metricBytesWithin and zzBytes: each returns some bool, and nothing turns.
-/
import Derived.Test.Qxb6623276aProg
import Derived.WalkKit
import Derived.ProofKit
import Derived.Below
import Derived.WalkSmall
import Derived.Deep.LoopGhost
namespace Go.Proofs.Qxb6623276a
open Go.RowKit

/-- WHAT A SLICE OF STRINGS IS GOOD FOR: its first 'len' elements are those of ss; empty, or they lie in a block that is there. -/
def Strs (w : World) (a : Option Addr) (len : Nat) (ss : List ByteArray) : Prop :=
  len ≤ ss.length ∧ (len = 0 ∨ ∃ b off, a = some ⟨b, off, none⟩ ∧ b < w.heap.size ∧ ∀ i, i < len → w.cell? ⟨b, off + i, none⟩ = some (.string (ss.getD i ByteArray.empty)))

theorem Strs.below {w w' : World} {a : Option Addr} {len : Nat} {ss : List ByteArray} (h : Strs w a len ss) (hb : Below w.heap.size w w') : Strs w' a len ss := by
  obtain ⟨h1, h2⟩ := h
  refine ⟨h1, ?_⟩
  rcases h2 with h2 | ⟨b, off, e, hlt, hc⟩
  · exact .inl h2
  · exact .inr ⟨b, off, e, Nat.lt_of_lt_of_le hlt hb.size, fun i hi => (hb.cell (by exact hlt)).trans (hc i hi)⟩

theorem Strs.cut {w : World} {a : Option Addr} {len : Nat} {ss : List ByteArray} (h : Strs w a len ss) (k : Nat) (hk : k ≤ len) : Strs w a k ss := by
  obtain ⟨h1, h2⟩ := h
  refine ⟨by omega, ?_⟩
  rcases h2 with h2 | ⟨b, off, e, hlt, hc⟩
  · exact .inl (by omega)
  · exact .inr ⟨b, off, e, hlt, fun i hi => hc i (by omega)⟩

theorem Strs.at {w : World} {a : Option Addr} {len : Nat} {ss : List ByteArray} (h : Strs w a len ss) (i : Nat) (hi : i < len) :
    ∃ b off, a = some ⟨b, off, none⟩ ∧ b < w.heap.size ∧ w.cell? ⟨b, off + i, none⟩ = some (.string (ss.getD i ByteArray.empty)) := by
  rcases h.2 with h | ⟨b, off, e, hlt, hc⟩
  · omega
  · exact ⟨b, off, e, hlt, hc i hi⟩

/-- It returns a bool. -/
def SaysBool (e : Ending) : Prop := ∃ b, e = .returned (.bool b)

set_option maxHeartbeats 400000 in
theorem within_any (a : Option Addr) (len cap : Nat) (ss : List ByteArray) (limit : Int) (w : World) (hlen : len ≤ 1048576) (hS : Strs w a len ss) :
    Calls Try.prog 5 #[.slice a len cap, .int .i64 limit] w fun e w' => SaysBool e ∧ w = w' := by
  go_enter Try.func5, Try.ntmps5
  go_wp2
  go_loop [5, 6] (fun t i => ∃ k : Nat, k ≤ len ∧ i = .int .i64 k ∧ ∃ n : Int, t = .int .i64 n) (fun _ i => len - (intOf i).toNat)
  case atStart => exact ⟨0, Nat.zero_le _, rfl, 0, rfl⟩
  case round =>
    obtain ⟨k, hk, rfl, n, rfl⟩ := hrel
    by_cases hlt : k < len
    · obtain ⟨b, off, rfl, hb, hc⟩ := hS.at k hlt
      obtain ⟨s, hs⟩ : ∃ s, s = ss.getD k ByteArray.empty := ⟨_, rfl⟩
      rw [← hs] at hc
      clear hs
      go_wp2
      · go_ret
        exact ⟨⟨_, rfl⟩, rfl⟩
      · go_round
        case rel => exact ⟨k + 1, by omega, by go_num, _, rfl⟩
        case measure => simp [intOf]; omega
    · go_wp2
      go_ret
      exact ⟨⟨_, rfl⟩, rfl⟩


set_option maxHeartbeats 4000000 in
theorem bytes_any (s0 s3 : ByteArray) (a1 a2 a4 a5 : Option Addr) (n1 n2 n4 n5 c1 c2 c4 c5 : Nat) (ss1 ss2 ss4 ss5 : List ByteArray) (cut : Int) (w : World)
    (S1 : Strs w a1 n1 ss1) (S2 : Strs w a2 n2 ss2) (S4 : Strs w a4 n4 ss4) (S5 : Strs w a5 n5 ss5) :
    Calls Try.prog 4 #[.string s0, .slice a1 n1 c1, .slice a2 n2 c2, .string s3, .slice a4 n4 c4, .slice a5 n5 c5, .int .i64 cut] w fun e w' => SaysBool e ∧ w = w' := by
  go_enter Try.func4, Try.ntmps4
  go_wp2
  all_goals first | (go_ret; exact ⟨⟨_, rfl⟩, rfl⟩) | skip
  go_loop [15, 16] (fun t i => ∃ k : Nat, k ≤ n1 ∧ i = .int .i64 k ∧ ∃ m : Int, t = .int .i64 m) (fun _ i => n1 - (intOf i).toNat)
  case atStart => exact ⟨0, Nat.zero_le _, rfl, _, rfl⟩
  case round =>
    obtain ⟨k, hk, rfl, m, rfl⟩ := hrel
    by_cases hlt : k < n1
    · obtain ⟨b, off, rfl, hb, hc⟩ := S1.at k hlt
      obtain ⟨s, hs⟩ : ∃ s, s = ss1.getD k ByteArray.empty := ⟨_, rfl⟩
      rw [← hs] at hc
      clear hs
      go_wp2
      all_goals first | (go_ret; exact ⟨⟨_, rfl⟩, rfl⟩) | skip
      go_round
      case rel => exact ⟨k + 1, by omega, by go_num, _, rfl⟩
      case measure => simp [intOf]; omega
    · go_wp2
      all_goals first | (go_ret; exact ⟨⟨_, rfl⟩, rfl⟩) | skip
      go_loop [15, 17] (fun t i => ∃ k : Nat, k ≤ n2 ∧ i = .int .i64 k ∧ ∃ m : Int, t = .int .i64 m) (fun _ i => n2 - (intOf i).toNat)
      case atStart => exact ⟨0, Nat.zero_le _, rfl, _, rfl⟩
      case round =>
        obtain ⟨k, hk, rfl, m, rfl⟩ := hrel
        by_cases hlt : k < n2
        · obtain ⟨b, off, rfl, hb, hc⟩ := S2.at k hlt
          obtain ⟨s, hs⟩ : ∃ s, s = ss2.getD k ByteArray.empty := ⟨_, rfl⟩
          rw [← hs] at hc
          clear hs
          go_wp2
          all_goals first | (go_ret; exact ⟨⟨_, rfl⟩, rfl⟩) | skip
          go_round
          case rel => exact ⟨k + 1, by omega, by go_num, _, rfl⟩
          case measure => simp [intOf]; omega
        · go_wp2
          all_goals first | (go_ret; exact ⟨⟨_, rfl⟩, rfl⟩) | skip
          go_loop [15, 18] (fun t i => ∃ k : Nat, k ≤ n4 ∧ i = .int .i64 k ∧ ∃ m : Int, t = .int .i64 m) (fun _ i => n4 - (intOf i).toNat)
          case atStart => exact ⟨0, Nat.zero_le _, rfl, _, rfl⟩
          case round =>
            obtain ⟨k, hk, rfl, m, rfl⟩ := hrel
            by_cases hlt : k < n4
            · obtain ⟨b, off, rfl, hb, hc⟩ := S4.at k hlt
              obtain ⟨s, hs⟩ : ∃ s, s = ss4.getD k ByteArray.empty := ⟨_, rfl⟩
              rw [← hs] at hc
              clear hs
              go_wp2
              all_goals first | (go_ret; exact ⟨⟨_, rfl⟩, rfl⟩) | skip
              go_round
              case rel => exact ⟨k + 1, by omega, by go_num, _, rfl⟩
              case measure => simp [intOf]; omega
            · go_wp2
              all_goals first | (go_ret; exact ⟨⟨_, rfl⟩, rfl⟩) | skip
              go_loop [15, 19] (fun t i => ∃ k : Nat, k ≤ n5 ∧ i = .int .i64 k ∧ ∃ m : Int, t = .int .i64 m) (fun _ i => n5 - (intOf i).toNat)
              case atStart => exact ⟨0, Nat.zero_le _, rfl, _, rfl⟩
              case round =>
                obtain ⟨k, hk, rfl, m, rfl⟩ := hrel
                by_cases hlt : k < n5
                · obtain ⟨b, off, rfl, hb, hc⟩ := S5.at k hlt
                  obtain ⟨s, hs⟩ : ∃ s, s = ss5.getD k ByteArray.empty := ⟨_, rfl⟩
                  rw [← hs] at hc
                  clear hs
                  go_wp2
                  all_goals first | (go_ret; exact ⟨⟨_, rfl⟩, rfl⟩) | skip
                  go_round
                  case rel => exact ⟨k + 1, by omega, by go_num, _, rfl⟩
                  case measure => simp [intOf]; omega
                · go_wp2
                  go_ret
                  exact ⟨⟨_, rfl⟩, rfl⟩
end Go.Proofs.Qxb6623276a
