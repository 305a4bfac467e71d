/-
  The contracts of (*JSONDecoder).digits and of ZZDigits.
-/
import Derived.Test.Qxb6619357aShared
namespace Go.Proofs.Qxb6619357a
open Go.RowKit

set_option maxHeartbeats 1000000 in
theorem digits_any (B b off len cap pos : Nat) (zs : List Int) (w : World) (hlen : len ≤ 100000) (hz : len ≤ zs.length) (hpos : pos ≤ len) (hbB : b < B)
    (hc0 : w.cell? ⟨B, 0, none⟩ = some (.slice (some ⟨b, off, none⟩) len cap)) (hc1 : w.cell? ⟨B, 1, none⟩ = some (.int .i64 pos)) (hf1 : w.frozen? ⟨B, 1, none⟩ = false)
    (hcell : ∀ i, i < len → w.cell? ⟨b, off + i, none⟩ = some (.int .u8 (zs.getD i 0))) :
    Calls Try.prog 20 #[.pointer (some ⟨B, 0, none⟩)] w fun e w' => e = .returned (.int .i64 ((runLen digitB (zs.take len) pos : Nat) : Int)) ∧ w'.cell? ⟨B, 1, none⟩ = some (.int .i64 ((pos + runLen digitB (zs.take len) pos : Nat) : Int)) ∧ Below B w w' := by
  have HZ : Hid (∀ i, i < len → w.cell? ⟨b, off + i, none⟩ = some (.int .u8 (zs.getD i 0))) := hcell
  clear hcell
  go_enter Try.func20, Try.ntmps20
  go_wp2
  go_loopg [] (len - pos) (fun g wr => ∃ j : Nat, pos ≤ j ∧ j ≤ len ∧ g = len - j ∧ pos + runLen digitB (zs.take len) pos = j + runLen digitB (zs.take len) j ∧ wr.cell? ⟨B, 0, none⟩ = some (.slice (some ⟨b, off, none⟩) len cap) ∧ wr.cell? ⟨B, 1, none⟩ = some (.int .i64 j) ∧ wr.frozen? ⟨B, 1, none⟩ = false ∧ Below B w wr)
  case atStart => exact ⟨pos, Nat.le_refl _, hpos, rfl, rfl, hc0, hc1, hf1, Below.refl _ _⟩
  case round =>
    obtain ⟨j, hpj, hj, hg, hrun, hr0, hr1, hrf, hbel⟩ := hrel
    have HR : Hid (pos + runLen digitB (zs.take len) pos = j + runLen digitB (zs.take len) j) := hrun
    have HG : Hid (gk = len - j) := hg
    clear hrun hg
    by_cases hlt : j < len
    · have hcx : wr.cell? ⟨b, off + j, none⟩ = some (.int .u8 (zs.getD j 0)) := (hbel.cell (by exact hbB)).trans (HZ.out j hlt)
      obtain ⟨c, hc⟩ : ∃ c, c = zs.getD j 0 := ⟨_, rfl⟩
      rw [← hc] at hcx
      have HC : Hid (c = zs.getD j 0) := hc
      clear hc
      by_cases h1 : 48 ≤ c
      · by_cases h2 : c ≤ 57
        · go_wp2
          go_quiet (fail)
          go_wp2
          go_roundg (len - (j + 1))
          case measure => have := HG.out; omega
          case rel => exact ⟨j + 1, by omega, by omega, rfl, run_step hz hlt HC.out (digit_yes h1 h2) HR.out, put1 _ _ hr0 hr1 hrf hbel⟩
        · have h2' : decide (c ≤ 57) = false := by simpa using h2
          go_wp2
          go_quiet (fail)
          go_wp2
          go_ret
          have hs := run_stop hz hlt HC.out (digit_high (by omega)) HR.out
          exact ⟨congrArg (fun x => Ending.returned (.int .i64 x)) (by omega), by rw [← hs]; exact hr1, below_drewN hbel _⟩
      · have h1' : decide (48 ≤ c) = false := by simpa using h1
        go_wp2
        go_quiet (fail)
        go_wp2
        go_ret
        have hs := run_stop hz hlt HC.out (digit_low (by omega)) HR.out
        exact ⟨congrArg (fun x => Ending.returned (.int .i64 x)) (by omega), by rw [← hs]; exact hr1, below_drewN hbel _⟩
    · have hlt' : decide (j < len) = false := by simpa using hlt
      go_wp2
      go_quiet (fail)
      go_wp2
      go_ret
      have hs := run_out hlt HR.out
      exact ⟨congrArg (fun x => Ending.returned (.int .i64 x)) (by omega), by rw [← hs]; exact hr1, below_drewN hbel _⟩

set_option maxHeartbeats 400000 in
/-- At the end of the text (whatever the slice's address): no digit. -/
theorem digits_end (B len cap : Nat) (a : Option Addr) (w : World)
    (hc0 : w.cell? ⟨B, 0, none⟩ = some (.slice a len cap)) (hc1 : w.cell? ⟨B, 1, none⟩ = some (.int .i64 len)) :
    Calls Try.prog 20 #[.pointer (some ⟨B, 0, none⟩)] w fun e w' => e = .returned (.int .i64 0) ∧ w'.cell? ⟨B, 1, none⟩ = some (.int .i64 (len : Int)) ∧ Below B w w' := by
  go_enter Try.func20, Try.ntmps20
  go_wp2
  refine wp_loop_once ?_
  go_wp2
  go_quiet (fail)
  go_wp2
  go_ret
  exact ⟨congrArg (fun x => Ending.returned (.int .i64 x)) (by omega), hc1, below_drewN (Below.refl _ _) _⟩

set_option maxHeartbeats 400000 in
theorem zzDigits_any (a : Option Addr) (len cap pos : Nat) (zs : List Int) (w : World) (hlen : len ≤ 100000) (hpos : pos ≤ len) (hB : Bytes w a len zs) :
    Calls Try.prog 14 #[.slice a len cap, .int .i64 pos] w fun e w' => e = .returned (.tuple #[.int .i64 ((runLen digitB (zs.take len) pos : Nat) : Int), .int .i64 ((pos + runLen digitB (zs.take len) pos : Nat) : Int)]) ∧ Below w.heap.size w w' := by
  by_cases hpl : pos = len
  · subst hpl
    rw [runLen_end digitB (zs.take pos) pos (by simp; omega)]
    go_enter Try.func14, Try.ntmps14
    go_wp2_with fail
    refine (digits_end w.heap.size pos cap a _ (by simp [go_sem]) (by simp [go_sem])).mono ?_
    rintro e w' ⟨rfl, hc1, hb⟩
    go_wp2
    go_quiet (fail)
    go_wp2
    go_ret2
    exact ⟨rfl, below_drewN (((Below.refl _ _).alloc (Nat.le_refl _) _).trans hb) _⟩
  · obtain ⟨h1, h2⟩ := hB
    rcases h2 with h2 | ⟨b, off, rfl, hlt, hc⟩
    · omega
    have HC : Hid (∀ i, i < len → w.cell? ⟨b, off + i, none⟩ = some (.int .u8 (zs.getD i 0))) := hc
    clear hc
    go_enter Try.func14, Try.ntmps14
    go_wp2_with fail
    refine (digits_any w.heap.size b off len cap pos zs _ hlen h1 hpos hlt (by simp [go_sem]) (by simp [go_sem]) (by simp [go_sem]) (fun i hi => by rw [World.cell?_alloc_past _ _ _ hlt]; exact HC.out i hi)).mono ?_
    rintro e w' ⟨rfl, hc1, hb⟩
    go_wp2
    go_quiet (fail)
    go_wp2
    go_ret2
    exact ⟨rfl, below_drewN (((Below.refl _ _).alloc (Nat.le_refl _) _).trans hb) _⟩

/-- The same, the count and the place given by names. -/
theorem zzDigits_is (a : Option Addr) (len cap pos : Nat) (zs : List Int) (n q : Nat) (hn : Hid (n = runLen digitB (zs.take len) pos)) (hq : Hid (q = pos + n)) (w : World) (hlen : len ≤ 100000) (hpos : pos ≤ len) (hB : Bytes w a len zs) :
    Calls Try.prog 14 #[.slice a len cap, .int .i64 pos] w fun e w' => e = .returned (.tuple #[.int .i64 (n : Int), .int .i64 (q : Int)]) ∧ Below w.heap.size w w' := by
  rw [hq.out, hn.out]; exact zzDigits_any a len cap pos zs w hlen hpos hB

theorem digit_any (c : Int) (w : World) : Calls Try.prog 15 #[.int .u8 c] w fun e w' => e = .returned (.bool (digitB c)) ∧ w' = w := by
  by_cases h1 : 48 ≤ c
  · by_cases h2 : c ≤ 57
    · rw [digit_yes h1 h2]
      go_enter Try.func15, Try.ntmps15
      go_wp2
      go_ret
      exact ⟨rfl, rfl⟩
    · rw [digit_high (by omega)]
      go_enter Try.func15, Try.ntmps15
      go_wp2
      go_ret
      exact ⟨rfl, rfl⟩
  · rw [digit_low (by omega)]
    go_enter Try.func15, Try.ntmps15
    go_wp2
    go_ret
    exact ⟨rfl, rfl⟩
end Go.Proofs.Qxb6619357a
