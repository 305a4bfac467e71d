/-
  Pages of bytes, and the leaves: zzByteAt, (*paged).at.
-/
import Derived.Test.Qxb6623338aProg
import Derived.WalkKit
import Derived.ProofKit
import Derived.Below
import Derived.WalkSmall
import Derived.Deep.QuietTactic
import Derived.Deep.LoopGhost
import Derived.BigQuiet
namespace Go.Proofs.Qxb6623338a
open Go.RowKit

/-- One page: its first L elements are Z's; empty, or in a block that is there. -/
def Row (w : World) (A : Option Addr) (L : Nat) (Z : Nat → Int) : Prop :=
  L = 0 ∨ ∃ b off, A = some ⟨b, off, none⟩ ∧ b < w.heap.size ∧ ∀ i, i < L → w.cell? ⟨b, off + i, none⟩ = some (.int .u8 (Z i))

/-- The pages. -/
def Pages (w : World) (a : Option Addr) (len : Nat) (A : Nat → Option Addr) (L C : Nat → Nat) (Z : Nat → Nat → Int) : Prop :=
  len = 0 ∨ ∃ b off, a = some ⟨b, off, none⟩ ∧ b < w.heap.size ∧ ∀ r, r < len → w.cell? ⟨b, off + r, none⟩ = some (.slice (A r) (L r) (C r)) ∧ Row w (A r) (L r) (Z r)

theorem Pages.below {w w' : World} {a : Option Addr} {len : Nat} {A : Nat → Option Addr} {L C : Nat → Nat} {Z : Nat → Nat → Int} (h : Pages w a len A L C Z) (hb : Below w.heap.size w w') : Pages w' a len A L C Z := by
  rcases h with h | ⟨b, off, e, hlt, hc⟩
  · exact .inl h
  refine .inr ⟨b, off, e, Nat.lt_of_lt_of_le hlt hb.size, fun r hr => ⟨(hb.cell (by exact hlt)).trans (hc r hr).1, ?_⟩⟩
  rcases (hc r hr).2 with h | ⟨b', off', e', hlt', hc'⟩
  · exact .inl h
  · exact .inr ⟨b', off', e', Nat.lt_of_lt_of_le hlt' hb.size, fun i hi => (hb.cell (by exact hlt')).trans (hc' i hi)⟩

theorem Pages.at {w : World} {a : Option Addr} {len : Nat} {A : Nat → Option Addr} {L C : Nat → Nat} {Z : Nat → Nat → Int} (h : Pages w a len A L C Z) (r : Nat) (hr : r < len) :
    ∃ b off, a = some ⟨b, off, none⟩ ∧ b < w.heap.size ∧ w.cell? ⟨b, off + r, none⟩ = some (.slice (A r) (L r) (C r)) ∧ Row w (A r) (L r) (Z r) := by
  rcases h with h | ⟨b, off, e, hlt, hc⟩
  · omega
  · exact ⟨b, off, e, hlt, hc r hr⟩

theorem Row.at {w : World} {A : Option Addr} {L : Nat} {Z : Nat → Int} (h : Row w A L Z) (i : Nat) (hi : i < L) : ∃ b off, A = some ⟨b, off, none⟩ ∧ b < w.heap.size ∧ w.cell? ⟨b, off + i, none⟩ = some (.int .u8 (Z i)) := by
  rcases h with h | ⟨b, off, e, hlt, hc⟩
  · omega
  · exact ⟨b, off, e, hlt, hc i hi⟩

/-- Byte j of the pages is there, and is c. -/
def Has (len : Nat) (L : Nat → Nat) (Z : Nat → Nat → Int) (j : Nat) (c : Int) : Prop := j / 1024 < len ∧ j % 1024 < L (j / 1024) ∧ c = Z (j / 1024) (j % 1024)

theorem byteAt_yes (a : Option Addr) (len cap : Nat) (A : Nat → Option Addr) (L C : Nat → Nat) (Z : Nat → Nat → Int) (j : Nat) (c : Int) (w : World) (hj : j ≤ 1000000000) (hlen : len ≤ 1000000000) (hL : ∀ r, L r ≤ 9223372036854775807)
    (hP : Pages w a len A L C Z) (hh : Has len L Z j c) :
    Calls Try.prog 5 #[.slice a len cap, .int .i64 j] w fun e w' => e = .returned (.tuple #[.int .u8 c, .bool true]) ∧ w = w' := by
  obtain ⟨h1, h2, h3⟩ := hh
  obtain ⟨b, off, rfl, hb, hc, hR⟩ := hP.at _ h1
  obtain ⟨b', off', e', hb', hc'⟩ := hR.at _ h2
  rw [e'] at hc
  rw [← h3] at hc'
  obtain ⟨l, hl⟩ : ∃ l, l = L (j / 1024) := ⟨_, rfl⟩
  rw [← hl] at h2 hc
  have hll : l ≤ 9223372036854775807 := by rw [hl]; exact hL _
  clear h3 e' hl hR hP
  go_enter Try.func5, Try.ntmps5
  go_wp2
  go_ret2
  exact ⟨rfl, rfl⟩

theorem byteAt_no (a : Option Addr) (len cap : Nat) (A : Nat → Option Addr) (L C : Nat → Nat) (Z : Nat → Nat → Int) (j : Nat) (w : World) (hj : j ≤ 1000000000) (hlen : len ≤ 1000000000) (hL : ∀ r, L r ≤ 9223372036854775807)
    (hP : Pages w a len A L C Z) (hh : ∀ c, ¬ Has len L Z j c) :
    Calls Try.prog 5 #[.slice a len cap, .int .i64 j] w fun e w' => e = .returned (.tuple #[.int .u8 0, .bool false]) ∧ w = w' := by
  by_cases h1 : j / 1024 < len
  · have h2 : L (j / 1024) ≤ j % 1024 := by
      by_cases h : j % 1024 < L (j / 1024)
      · exact absurd ⟨h1, h, rfl⟩ (hh _)
      · omega
    obtain ⟨b, off, rfl, hb, hc, hR⟩ := hP.at _ h1
    obtain ⟨l, hl⟩ : ∃ l, l = L (j / 1024) := ⟨_, rfl⟩
    rw [← hl] at h2 hc
    have hll : l ≤ 9223372036854775807 := by rw [hl]; exact hL _
    clear hl hR hP hh
    go_enter Try.func5, Try.ntmps5
    go_wp2
    go_ret2
    exact ⟨rfl, rfl⟩
  · clear hh hP
    go_enter Try.func5, Try.ntmps5
    go_wp2
    go_ret2
    exact ⟨rfl, rfl⟩

/-- (*paged).at: the address of byte j. -/
theorem at_any (M o : Nat) (a : Option Addr) (len cap : Nat) (A : Nat → Option Addr) (L C : Nat → Nat) (Z : Nat → Nat → Int) (j : Nat) (c : Int) (w : World) (hj : j ≤ 1000000000) (hL : ∀ r, L r ≤ 9223372036854775807)
    (hP : Pages w a len A L C Z) (hh : Has len L Z j c) (hm : w.cell? ⟨M, o, none⟩ = some (.slice a len cap)) :
    Calls Try.prog 9 #[.pointer (some ⟨M, o, none⟩), .int .i64 j] w fun e w' => (∃ b p, e = .returned (.pointer (some ⟨b, p, none⟩)) ∧ w.cell? ⟨b, p, none⟩ = some (.int .u8 c)) ∧ w = w' := by
  obtain ⟨h1, h2, h3⟩ := hh
  obtain ⟨b, off, rfl, hb, hc, hR⟩ := hP.at _ h1
  obtain ⟨b', off', e', hb', hc'⟩ := hR.at _ h2
  rw [e'] at hc
  rw [← h3] at hc'
  obtain ⟨l, hl⟩ : ∃ l, l = L (j / 1024) := ⟨_, rfl⟩
  rw [← hl] at h2 hc
  have hll : l ≤ 9223372036854775807 := by rw [hl]; exact hL _
  clear h3 e' hl hR hP
  suffices h : Calls Try.prog 9 #[.pointer (some ⟨M, o, none⟩), .int .i64 j] w fun e w' => e = .returned (.pointer (some ⟨b', off' + j % 1024, none⟩)) ∧ w = w' from h.mono fun e w' ⟨he, hw⟩ => ⟨⟨_, _, he, hc'⟩, hw⟩
  go_enter Try.func9, Try.ntmps9
  go_wp2
  go_ret
  exact ⟨rfl, rfl⟩
end Go.Proofs.Qxb6623338a
