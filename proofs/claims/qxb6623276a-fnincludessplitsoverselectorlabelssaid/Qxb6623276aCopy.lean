/-
  'zzc := make([]string, len(xs)); copy(zzc, xs)'.
-/
import Derived.Test.Qxb6623276aIncl
import Derived.Laws.CopyOwn
import Derived.Deep.RegionHeld
import Derived.Deep.Cut
import Derived.Deep.RegionWith
import Derived.Deep.DeepMust
import Derived.Deep.CutRange
namespace Go.Proofs.Qxb6623276a
open Go.RowKit

theorem Try.info9 : (Try.prog.info? 9).map (fun i => (i.zero, i.size, i.bytes)) = some (some (.string ByteArray.empty), 1, 16) := by kernel_rfl
theorem Try.size9 : (Try.prog.info? 9).map (·.size) = some 1 := by kernel_rfl

def cellsOf (ss : List ByteArray) : List Value := ss.map Value.string

theorem cellsOf_get {ss : List ByteArray} {j : Nat} {v : Value} (h : (cellsOf ss)[j]? = some v) : j < ss.length ∧ v = .string (ss.getD j ByteArray.empty) := by
  unfold cellsOf at h
  rw [List.getElem?_map] at h
  obtain ⟨z, hz, rfl⟩ := Option.map_eq_some_iff.1 h
  obtain ⟨hlt, e⟩ := List.getElem?_eq_some_iff.1 hz
  exact ⟨hlt, by simp [List.getD_eq_getElem?_getD, hz]⟩

theorem getD_take (ss : List ByteArray) (n k : Nat) (h : k < n) : (ss.take n).getD k ByteArray.empty = ss.getD k ByteArray.empty := by
  simp [h]

theorem run_copy_strs (w : World) (len cap : Nat) (x : Addr) (ss : List ByteArray) (hS : Strs w (some x) len ss) :
    ∃ w', (Builtin.copy_ #[22, 22] 3 #[.slice (some ⟨w.heap.size, 0, none⟩) len len, .slice (some x) len cap]).run Try.prog (w.alloc (.cells (madeCells #[.string ByteArray.empty] len) 9)) = .ok (.int .i64 (len : Int)) w' ∧
      Strs w' (some ⟨w.heap.size, 0, none⟩) len ss ∧ Below w.heap.size w w' := by
  have hlz := hS.1
  have hlen : (cellsOf (ss.take len)).length = len := by simp [cellsOf]; omega
  have hms : (madeCells #[Value.string ByteArray.empty] len).size = len := size_madeCells _ _
  have hg : (w.alloc (.cells (madeCells #[.string ByteArray.empty] len) 9)).heap[w.heap.size]? = some (.cells (madeCells #[.string ByteArray.empty] len) 9 (0, 0)) := by simp [World.alloc, -World.alloc_eq]
  have hrun := run_copy_row (P := Try.prog) (w.alloc (.cells (madeCells #[.string ByteArray.empty] len) 9)) 22 22 3 9 w.heap.size 0 len len x len cap (madeCells #[.string ByteArray.empty] len) 9 (cellsOf (ss.take len)) Try.underlying22 Try.size9 hg
    (by rw [hlen]; exact (Nat.min_self len).symm)
    (fun j v hj => by
      obtain ⟨hj1, rfl⟩ := cellsOf_get hj
      have hj2 : j < len := by simp at hj1; omega
      obtain ⟨b, off, e, hb, hc⟩ := hS.at j hj2
      obtain rfl : x = ⟨b, off, none⟩ := by simpa using e
      have hc' : w.cell? ((⟨b, off, none⟩ : Addr).add j) = some (.string (ss.getD j ByteArray.empty)) := by rw [Go.WideShapes.add_plain]; exact hc
      rw [World.cell?_alloc_some _ _ _ (by rw [hc']; rfl), hc', getD_take _ _ _ hj2])
    (by rw [hlen, hms]; omega)
    (fun v hv => by unfold cellsOf at hv; obtain ⟨z, _, rfl⟩ := List.mem_map.1 hv; rfl)
  rw [hlen] at hrun
  have hE : (madeCells #[Value.string ByteArray.empty] len).toList.take 0 ++ cellsOf (ss.take len) ++ (madeCells #[Value.string ByteArray.empty] len).toList.drop (0 + len) = cellsOf (ss.take len) := by
    rw [List.drop_eq_nil_of_le (by rw [Array.length_toList, hms]; omega)]; simp
  rw [hE] at hrun
  have hb : Below w.heap.size w ((w.alloc (.cells (madeCells #[.string ByteArray.empty] len) 9)).setRow w.heap.size (cellsOf (ss.take len)).toArray) :=
    below_setRow ((Below.refl _ _).alloc (Nat.le_refl _) _) (Nat.le_refl _) _
  have hg' := setRow_heap (w.alloc (.cells (madeCells #[.string ByteArray.empty] len) 9)) w.heap.size _ (cellsOf (ss.take len)).toArray 9 _ hg
  have hlt : w.heap.size < ((w.alloc (.cells (madeCells #[.string ByteArray.empty] len) 9)).setRow w.heap.size (cellsOf (ss.take len)).toArray).heap.size := by
    simp [World.setRow, World.alloc, -World.alloc_eq]
  refine ⟨_, hrun, ⟨hlz, .inr ⟨_, _, rfl, hlt, fun i hi => ?_⟩⟩, hb⟩
  have hi' : i < ss.length := by omega
  simp only [World.cell?, hg']
  simp [cellsOf, hi, hi']

theorem run_make_strs (n : Nat) (hn : n ≤ 1048576) (w : World) :
    (Instr.makeSlice 22 (.int .i64 (n : Int)) (.int .i64 (n : Int))).run Try.prog w = .ok (.slice (some ⟨w.heap.size, 0, none⟩) n n) (w.alloc (.cells (madeCells #[.string ByteArray.empty] n) 9)) :=
  run_make_row' (P := Try.prog) 22 9 (.string ByteArray.empty) 16 Try.underlying22 Try.info9 rfl .i64 .i64 n (by omega) (by omega) w

theorem Strs.nil {w : World} {n : Nat} {ss : List ByteArray} (h : Strs w none n ss) : n = 0 := by
  rcases h.2 with h | ⟨b, off, e, _⟩
  · exact h
  · simp at e
end Go.Proofs.Qxb6623276a
