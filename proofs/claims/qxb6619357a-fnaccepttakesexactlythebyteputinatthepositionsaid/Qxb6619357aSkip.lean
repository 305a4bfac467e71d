import Derived.Test.Qxb6619357aProg
import Derived.Test.Qxb6619357aPlain
import Derived.WalkKit
import Derived.ProofKit
import Derived.Below
import Derived.WalkSmall
import Derived.Deep.QuietTactic
import Derived.Deep.LoopGhost
import Derived.BigQuiet
namespace Go.Proofs.Qxb6619357a
open Go.RowKit

/-- The second cell of block B is written (behind some draws). -/
theorem put1 {w wr : World} {B : Nat} {x0 x1 : Value} (n : Nat) (v : Value) (h0 : wr.cell? ⟨B, 0, none⟩ = some x0) (h1 : wr.cell? ⟨B, 1, none⟩ = some x1) (hf : wr.frozen? ⟨B, 1, none⟩ = false) (hb : Below B w wr) :
    ((wr.drewN n).setCell ⟨B, 1, none⟩ v).cell? ⟨B, 0, none⟩ = some x0 ∧ ((wr.drewN n).setCell ⟨B, 1, none⟩ v).cell? ⟨B, 1, none⟩ = some v ∧ ((wr.drewN n).setCell ⟨B, 1, none⟩ v).frozen? ⟨B, 1, none⟩ = false ∧ Below B w ((wr.drewN n).setCell ⟨B, 1, none⟩ v) := by
  refine ⟨?_, ?_, ?_, ?_⟩
  · simp [go_sem, h0]
  · simp [go_sem, h1]
  · simp [go_sem, hf]
  · exact (below_drewN hb n).setCell (Nat.le_refl _) v

set_option maxHeartbeats 400000 in
theorem skipSpace_any (B b off len cap pos : Nat) (zs : List Int) (w : World) (hlen : len ≤ 100000) (hz : len ≤ zs.length) (hpos : pos ≤ len) (hbB : b < B)
    (hc0 : w.cell? ⟨B, 0, none⟩ = some (.slice (some ⟨b, off, none⟩) len cap)) (hc1 : w.cell? ⟨B, 1, none⟩ = some (.int .i64 pos)) (hf1 : w.frozen? ⟨B, 1, none⟩ = false)
    (hcell : ∀ i, i < len → w.cell? ⟨b, off + i, none⟩ = some (.int .u8 (zs.getD i 0))) :
    Calls Try.prog 19 #[.pointer (some ⟨B, 0, none⟩)] w fun e w' => e = .returned (.tuple #[]) ∧ w'.cell? ⟨B, 1, none⟩ = some (.int .i64 ((pos + runLen blankB (zs.take len) pos : Nat) : Int)) ∧ Below B w w' := by
  have HZ : Hid (∀ i, i < len → w.cell? ⟨b, off + i, none⟩ = some (.int .u8 (zs.getD i 0))) := hcell
  clear hcell
  go_enter Try.func19, Try.ntmps19
  go_wp2
  go_loopg [] (len - pos) (fun g wr => ∃ j : Nat, j ≤ len ∧ g = len - j ∧ pos + runLen blankB (zs.take len) pos = j + runLen blankB (zs.take len) j ∧ wr.cell? ⟨B, 0, none⟩ = some (.slice (some ⟨b, off, none⟩) len cap) ∧ wr.cell? ⟨B, 1, none⟩ = some (.int .i64 j) ∧ wr.frozen? ⟨B, 1, none⟩ = false ∧ Below B w wr)
  case atStart => exact ⟨pos, hpos, rfl, rfl, hc0, hc1, hf1, Below.refl _ _⟩
  case round =>
    obtain ⟨j, hj, hg, hrun, hr0, hr1, hrf, hbel⟩ := hrel
    have HR : Hid (pos + runLen blankB (zs.take len) pos = j + runLen blankB (zs.take len) j) := hrun
    have HG : Hid (gk = len - j) := hg
    clear hrun hg
    by_cases hlt : j < len
    · have hcx : wr.cell? ⟨b, off + j, none⟩ = some (.int .u8 (zs.getD j 0)) := (hbel.cell (by exact hbB)).trans (HZ.out j hlt)
      obtain ⟨c, hc⟩ : ∃ c, c = zs.getD j 0 := ⟨_, rfl⟩
      rw [← hc] at hcx
      have HC : Hid (c = zs.getD j 0) := hc
      clear hc
      go_wp2
      go_quiet (fail)
      go_wp2
      go_quiet (fail)
      go_wp2
      any_goals go_roundg (len - (j + 1))
      all_goals first
        | (case measure => have := HG.out; omega)
        | (case rel =>
            have hb : blankB c = true := by first | exact blank_32 (by assumption) | exact blank_9 (by assumption) | exact blank_10 (by assumption) | exact blank_13 (by assumption)
            exact ⟨j + 1, by omega, rfl, run_step hz hlt HC.out hb HR.out, put1 _ _ hr0 hr1 hrf hbel⟩)
        | skip
      refine bodyPost_ret (results_none (by first | rfl | simp [Try.results19]) _ _ _) rfl ?_
      exact ⟨rfl, by rw [← run_stop hz hlt HC.out (blank_no (by assumption) (by assumption) (by assumption) (by assumption)) HR.out]; exact hr1, below_drewN hbel _⟩
    · go_wp2
      go_quiet (fail)
      go_wp2
      go_end0
      exact ⟨rfl, by rw [← run_out hlt HR.out]; exact hr1, below_drewN hbel _⟩

/-- At the end of the text (whatever the slice's address): nothing moves. -/
theorem skipSpace_end (B len cap : Nat) (a : Option Addr) (w : World)
    (hc0 : w.cell? ⟨B, 0, none⟩ = some (.slice a len cap)) (hc1 : w.cell? ⟨B, 1, none⟩ = some (.int .i64 len)) :
    Calls Try.prog 19 #[.pointer (some ⟨B, 0, none⟩)] w fun e w' => e = .returned (.tuple #[]) ∧ w'.cell? ⟨B, 1, none⟩ = some (.int .i64 (len : Int)) ∧ Below B w w' := by
  go_enter Try.func19, Try.ntmps19
  go_wp2
  refine wp_loop_once ?_
  go_wp2
  go_quiet (fail)
  go_wp2
  go_end0
  exact ⟨rfl, hc1, below_drewN (Below.refl _ _) _⟩

/-- WHAT A SLICE OF BYTES IS GOOD FOR: its first 'len' elements are those of zs; empty, or they lie in a block that is there. -/
def Bytes (w : World) (a : Option Addr) (len : Nat) (zs : List Int) : Prop :=
  len ≤ zs.length ∧ (len = 0 ∨ ∃ b off, a = some ⟨b, off, none⟩ ∧ b < w.heap.size ∧ ∀ i, i < len → w.cell? ⟨b, off + i, none⟩ = some (.int .u8 (zs.getD i 0)))

theorem Bytes.below {w w' : World} {a : Option Addr} {len : Nat} {zs : List Int} (h : Bytes w a len zs) (hb : Below w.heap.size w w') : Bytes w' a len zs := by
  obtain ⟨h1, h2⟩ := h
  refine ⟨h1, ?_⟩
  rcases h2 with h2 | ⟨b, off, e, hlt, hc⟩
  · exact .inl h2
  · exact .inr ⟨b, off, e, Nat.lt_of_lt_of_le hlt hb.size, fun i hi => (hb.cell (by exact hlt)).trans (hc i hi)⟩

theorem Bytes.cut {w : World} {a : Option Addr} {len : Nat} {zs : List Int} (h : Bytes w a len zs) (k : Nat) (hk : k ≤ len) : Bytes w a k zs := by
  obtain ⟨h1, h2⟩ := h
  refine ⟨by omega, ?_⟩
  rcases h2 with h2 | ⟨b, off, e, hlt, hc⟩
  · exact .inl (by omega)
  · exact .inr ⟨b, off, e, hlt, fun i hi => hc i (by omega)⟩

set_option maxHeartbeats 400000 in
theorem zzSkip_any (a : Option Addr) (len cap pos : Nat) (zs : List Int) (w : World) (hlen : len ≤ 100000) (hpos : pos ≤ len) (hB : Bytes w a len zs) :
    Calls Try.prog 9 #[.slice a len cap, .int .i64 pos] w fun e w' => e = .returned (.int .i64 ((pos + runLen blankB (zs.take len) pos : Nat) : Int)) ∧ Below w.heap.size w w' := by
  by_cases hpl : pos = len
  · subst hpl
    rw [runLen_end blankB (zs.take pos) pos (by simp; omega)]
    go_enter Try.func9, Try.ntmps9
    go_wp2_with fail
    refine (skipSpace_end w.heap.size pos cap a _ (by simp [go_sem]) (by simp [go_sem])).mono ?_
    rintro e w' ⟨rfl, hc1, hb⟩
    go_wp2
    go_ret
    exact ⟨rfl, ((Below.refl _ _).alloc (Nat.le_refl _) _).trans hb⟩
  · obtain ⟨h1, h2⟩ := hB
    rcases h2 with h2 | ⟨b, off, rfl, hlt, hc⟩
    · omega
    have HC : Hid (∀ i, i < len → w.cell? ⟨b, off + i, none⟩ = some (.int .u8 (zs.getD i 0))) := hc
    clear hc
    go_enter Try.func9, Try.ntmps9
    go_wp2_with fail
    refine (skipSpace_any w.heap.size b off len cap pos zs _ hlen h1 hpos hlt (by simp [go_sem]) (by simp [go_sem]) (by simp [go_sem]) (fun i hi => by rw [World.cell?_alloc_past _ _ _ hlt]; exact HC.out i hi)).mono ?_
    rintro e w' ⟨rfl, hc1, hb⟩
    go_wp2
    go_ret
    exact ⟨rfl, ((Below.refl _ _).alloc (Nat.le_refl _) _).trans hb⟩
end Go.Proofs.Qxb6619357a
