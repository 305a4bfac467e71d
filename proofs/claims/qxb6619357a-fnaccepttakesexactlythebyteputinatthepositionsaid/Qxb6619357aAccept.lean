/-
  The contracts of (*JSONDecoder).At, (*JSONDecoder).accept and ZZAccept.
-/
import Derived.Test.Qxb6619357aShared
namespace Go.Proofs.Qxb6619357a
open Go.RowKit

/-- A byte is there: At tells whether it is c. -/
theorem at_there (B b off len cap pos : Nat) (z c : Int) (t : Bool) (w : World) (hpos : pos < len)
    (hc0 : w.cell? ⟨B, 0, none⟩ = some (.slice (some ⟨b, off, none⟩) len cap)) (hc1 : w.cell? ⟨B, 1, none⟩ = some (.int .i64 pos))
    (hcell : w.cell? ⟨b, off + pos, none⟩ = some (.int .u8 z)) (ht : (z == c) = t) :
    Calls Try.prog 22 #[.pointer (some ⟨B, 0, none⟩), .int .u8 c] w fun e w' => e = .returned (.bool t) ∧ ∃ n, w' = w.drewN n := by
  go_enter Try.func22, Try.ntmps22
  go_wp2
  go_quiet (fail)
  go_wp2
  go_ret
  exact ⟨rfl, _, rfl⟩

/-- The end of the text: no byte. -/
theorem at_end (B len cap : Nat) (a : Option Addr) (c : Int) (w : World)
    (hc0 : w.cell? ⟨B, 0, none⟩ = some (.slice a len cap)) (hc1 : w.cell? ⟨B, 1, none⟩ = some (.int .i64 len)) :
    Calls Try.prog 22 #[.pointer (some ⟨B, 0, none⟩), .int .u8 c] w fun e w' => e = .returned (.bool false) ∧ ∃ n, w' = w.drewN n := by
  go_enter Try.func22, Try.ntmps22
  go_wp2
  go_quiet (fail)
  go_wp2
  go_ret
  exact ⟨rfl, _, rfl⟩

set_option maxHeartbeats 400000 in
theorem zzAccept_yes (a : Option Addr) (len cap pos : Nat) (zs : List Int) (c : Int) (w : World) (hlen : len ≤ 100000) (hpos : pos < len) (hB : Bytes w a len zs) (hc : Hid (c = zs.getD pos 0)) :
    Calls Try.prog 18 #[.slice a len cap, .int .i64 pos, .int .u8 c] w fun e w' => e = .returned (.tuple #[.bool true, .int .i64 ((pos : Int) + 1)]) ∧ Below w.heap.size w w' := by
  obtain ⟨h1, h2⟩ := hB
  rcases h2 with h2 | ⟨b, off, rfl, hlt, hcs⟩
  · omega
  have hcx : w.cell? ⟨b, off + pos, none⟩ = some (.int .u8 c) := by rw [hcs pos hpos, hc.out]
  clear hcs
  go_enter Try.func18, Try.ntmps18
  go_wp2_with (first | (go_at_call 22; refine (at_there w.heap.size b off len cap pos c c true _ hpos (by simp [go_sem]) (by simp [go_sem]) (by rw [World.cell?_alloc_past _ _ _ hlt]; exact hcx) (by simp)).mono ?_; rintro e w' ⟨rfl, n, rfl⟩) | go_in)
  go_quiet (fail)
  go_wp2
  go_ret2
  exact ⟨rfl, below_drewN ((below_drewN ((Below.refl _ _).alloc (Nat.le_refl _) _) _).setCell (Nat.le_refl _) _) _⟩

set_option maxHeartbeats 400000 in
theorem zzAccept_no (a : Option Addr) (len cap pos : Nat) (zs : List Int) (c : Int) (w : World) (hpos : pos ≤ len) (hB : Bytes w a len zs) (hc : pos = len ∨ (zs.getD pos 0 == c) = false) :
    Calls Try.prog 18 #[.slice a len cap, .int .i64 pos, .int .u8 c] w fun e w' => e = .returned (.tuple #[.bool false, .int .i64 (pos : Int)]) ∧ Below w.heap.size w w' := by
  by_cases hpl : pos = len
  · subst hpl
    clear hc hB
    go_enter Try.func18, Try.ntmps18
    go_wp2_with (first | (go_at_call 22; refine (at_end w.heap.size pos cap a c _ (by simp [go_sem]) (by simp [go_sem])).mono ?_; rintro e w' ⟨rfl, n, rfl⟩) | go_in)
    go_quiet (fail)
    go_wp2
    go_ret2
    exact ⟨rfl, below_drewN (below_drewN ((Below.refl _ _).alloc (Nat.le_refl _) _) _) _⟩
  · have hlt' : pos < len := by omega
    obtain ⟨h1, h2⟩ := hB
    rcases h2 with h2 | ⟨b, off, rfl, hlt, hcs⟩
    · omega
    obtain ⟨z, hz⟩ : ∃ z, z = zs.getD pos 0 := ⟨_, rfl⟩
    have hne : Hid ((z == c) = false) := by rw [hz]; exact hc.resolve_left hpl
    have hcx : w.cell? ⟨b, off + pos, none⟩ = some (.int .u8 z) := by rw [hcs pos hlt', hz]
    clear hcs hc hz
    go_enter Try.func18, Try.ntmps18
    go_wp2_with (first | (go_at_call 22; refine (at_there w.heap.size b off len cap pos z c false _ hlt' (by simp [go_sem]) (by simp [go_sem]) (by rw [World.cell?_alloc_past _ _ _ hlt]; exact hcx) hne.out).mono ?_; rintro e w' ⟨rfl, n, rfl⟩) | go_in)
    go_quiet (fail)
    go_wp2
    go_ret2
    exact ⟨rfl, below_drewN (below_drewN ((Below.refl _ _).alloc (Nat.le_refl _) _) _) _⟩
end Go.Proofs.Qxb6619357a
