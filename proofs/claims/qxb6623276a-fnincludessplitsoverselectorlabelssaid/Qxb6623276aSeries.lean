/-
  The contract of ZZSeries.
-/
import Derived.Test.Qxb6623276aWithin
import Derived.WalkSpells
import Derived.Deep.OwnRows
namespace Go.Proofs.Qxb6623276a
open Go.RowKit

theorem Try.info31 : (Try.prog.info? 31).map (fun i => (i.zero, i.size, i.bytes)) = some (some (.agg #[.string ByteArray.empty, .string ByteArray.empty]), 2, 32) := by kernel_rfl

theorem run_make_labels (n : Nat) (hn : n ≤ 1048576) (w : World) :
    (Instr.makeSlice 25 (.int .i64 (n : Int)) (.int .i64 (n : Int))).run Try.prog w = .ok (.slice (some ⟨w.heap.size, 0, none⟩) n n) (w.alloc (.cells (madeCells #[.string ByteArray.empty, .string ByteArray.empty] (n * 2)) 31)) := by
  obtain ⟨i, hi, hzz⟩ := Option.map_eq_some_iff.1 Try.info31
  simp only [Prod.mk.injEq] at hzz
  obtain ⟨hz, hs, hb⟩ := hzz
  have hr := run_make (P := Try.prog) w 25 31 i _ Try.underlying25 hi hz .i64 .i64 n n (by omega) (Int.le_refl _) (by rw [hb]; omega) (by omega)
  simp only [Int.toNat_natCast, hs] at hr
  exact hr

/-- The labels' block so far: the first k labels are laid. -/
def Laid (w : World) (g n : Nat) (ss1 ss2 : List ByteArray) (k : Nat) : Prop :=
  ∃ f : Nat → Value, w.rowIs g 31 (n * 2) f ∧ ∀ j, j < k → f (j * 2) = .string (ss1.getD j ByteArray.empty) ∧ f (j * 2 + 1) = .string (ss2.getD j ByteArray.empty)

theorem Laid.there {w : World} {g n k : Nat} {ss1 ss2 : List ByteArray} (h : Laid w g n ss1 ss2 k) (i : Nat) (hi : i < n * 2) : (∃ v, w.cell? ⟨g, i, none⟩ = some v) ∧ w.frozen? ⟨g, i, none⟩ = false := by
  obtain ⟨f, hr, hf⟩ := h
  exact ⟨⟨_, hr.cell hi⟩, hr.frozen i⟩

theorem Laid.step {w : World} {g n k : Nat} {ss1 ss2 : List ByteArray} (h : Laid w g n ss1 ss2 k) {x1 x2 : ByteArray} (e1 : x1 = ss1.getD k ByteArray.empty) (e2 : x2 = ss2.getD k ByteArray.empty) :
    Laid ((w.setCell ⟨g, k * 2, none⟩ (.string x1)).setCell ⟨g, k * 2 + 1, none⟩ (.string x2)).drew g n ss1 ss2 (k + 1) := by
  obtain ⟨f, hr, hf⟩ := h
  refine ⟨_, ((hr.set (k * 2) (.string x1)).set (k * 2 + 1) (.string x2)).drew, fun j hj => ?_⟩
  by_cases e : j = k
  · subst e
    exact ⟨by rw [if_neg (by omega), if_pos rfl, e1], by rw [if_pos rfl, e2]⟩
  · have := hf j (by omega)
    exact ⟨by rw [if_neg (by omega), if_neg (by omega)]; exact this.1, by rw [if_neg (by omega), if_neg (by omega)]; exact this.2⟩

theorem Laid.other {w : World} {g n k : Nat} {ss1 ss2 : List ByteArray} (h : Laid w g n ss1 ss2 k) {a : Addr} (ha : g ≠ a.block) (v : Value) : Laid (w.setCell a v) g n ss1 ss2 k := by
  obtain ⟨f, hr, hf⟩ := h
  exact ⟨f, hr.setOther ha v, hf⟩

/-- The two blocks as they are made: the result's and the labels'. -/
theorem made_start (w : World) (n : Nat) (ss1 ss2 : List ByteArray) (C : Array Value) (hC : C.size = 2) (M : Array Value) (hM : M.size = n * 2) :
    Laid ((w.alloc (.cells C 27)).alloc (.cells M 31)) (w.heap.size + 1) n ss1 ss2 0 ∧ (∃ g0, ((w.alloc (.cells C 27)).alloc (.cells M 31)).rowIs w.heap.size 27 2 g0) ∧ Below w.heap.size w ((w.alloc (.cells C 27)).alloc (.cells M 31)) := by
  have hs : (w.alloc (.cells C 27)).heap.size = w.heap.size + 1 := by simp
  refine ⟨?_, ?_, ((Below.refl _ _).alloc (Nat.le_refl _) _).alloc (by rw [hs]; omega) _⟩
  · have h := World.rowIs_alloc (w.alloc (.cells C 27)) M 31 (fun i => M[i]?.getD undef) (fun i hi => by simp [hi])
    rw [hs, hM] at h
    exact ⟨_, h, fun j hj => absurd hj (Nat.not_lt_zero _)⟩
  · have h := (World.rowIs_alloc w C 27 (fun i => C[i]?.getD undef) (fun i hi => by simp [hi])).alloc (.cells M 31)
    rw [hC] at h
    exact ⟨_, h⟩

set_option maxHeartbeats 1000000 in
theorem series_any (nm : ByteArray) (a1 a2 : Option Addr) (n c1 c2 : Nat) (ss1 ss2 : List ByteArray) (w : World) (hn : n ≤ 1048576) (S1 : Strs w a1 n ss1) (S2 : Strs w a2 n ss2) :
    Calls Try.prog 6 #[.string nm, .slice a1 n c1, .slice a2 n c2] w fun e w' => e = .returned (.agg #[.string nm, .slice (some ⟨w.heap.size + 1, 0, none⟩) n n]) ∧ Laid w' (w.heap.size + 1) n ss1 ss2 n ∧ Below w.heap.size w w' := by
  have hmk := run_make_labels n hn
  go_enter Try.func6, Try.ntmps6
  go_wp2
  go_loopw [9] (fun i wr => ∃ k : Nat, k ≤ n ∧ i = .int .i64 k ∧ Laid wr (w.heap.size + 1) n ss1 ss2 k ∧ (∃ g0, wr.rowIs w.heap.size 27 2 g0) ∧ Below w.heap.size w wr) (fun i _ => n - (intOf i).toNat)
  case atStart => exact ⟨0, Nat.zero_le _, rfl, made_start w n ss1 ss2 _ rfl _ (size_madeCells _ _)⟩
  case round =>
    obtain ⟨k, hk, rfl, hlaid, ⟨g0, hg0⟩, hbel⟩ := hrel
    by_cases hlt : k < n
    · obtain ⟨b1, o1, rfl, hb1, hc1⟩ := S1.at k hlt
      obtain ⟨b2, o2, rfl, hb2, hc2⟩ := S2.at k hlt
      obtain ⟨x1, hx1⟩ : ∃ s, s = ss1.getD k ByteArray.empty := ⟨_, rfl⟩
      obtain ⟨x2, hx2⟩ : ∃ s, s = ss2.getD k ByteArray.empty := ⟨_, rfl⟩
      rw [← hx1] at hc1
      rw [← hx2] at hc2
      have HX1 : Hid (x1 = ss1.getD k ByteArray.empty) := hx1
      have HX2 : Hid (x2 = ss2.getD k ByteArray.empty) := hx2
      clear hx1 hx2
      have e1 : wr.cell? ⟨b1, o1 + k, none⟩ = some (.string x1) := (hbel.cell (by exact hb1)).trans hc1
      have e2 : wr.cell? ⟨b2, o2 + k, none⟩ = some (.string x2) := (hbel.cell (by exact hb2)).trans hc2
      clear hc1 hc2
      obtain ⟨⟨v1, hv1⟩, hf1⟩ := hlaid.there (k * 2) (by omega)
      obtain ⟨⟨v2, hv2⟩, hf2⟩ := hlaid.there (k * 2 + 1) (by omega)
      go_wp2
      go_region
      all_goals go_wp2
      all_goals go_roundw
      case measure => simp [intOf]; omega
      case rel => exact ⟨k + 1, by omega, by go_num, hlaid.step HX1.out HX2.out, ⟨_, ((hg0.setOther (by simp) _).setOther (by simp) _).drew⟩, ((hbel.setCell (by simp) _).setCell (by simp) _).drew⟩
    · have r0 := hg0.cell (i := 0) (by omega)
      have r1 := hg0.cell (i := 1) (by omega)
      have r2 := hg0.frozen 0
      have r3 := hg0.frozen 1
      go_wp2
      obtain rfl : k = n := by omega
      refine bodyPost_ret (v := .agg #[.string nm, .slice (some ⟨w.heap.size + 1, 0, none⟩) k k]) (by simp [results, Try.results6, go_sem, r0, r1]) rfl ⟨rfl, (hlaid.other (by simp) _).other (by simp) _, (hbel.setCell (Nat.le_refl _) _).setCell (Nat.le_refl _) _⟩
end Go.Proofs.Qxb6623276a
