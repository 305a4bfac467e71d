import Derived.Test.Qxb6619357aSkip
import Derived.WalkSpells
import Derived.Laws.CopyOwn
import Derived.Deep.OwnRows
import Derived.Deep.RegionHeld
namespace Go.Proofs.Qxb6619357a
open Go.RowKit

theorem Try.info5 : (Try.prog.info? 5).map (fun i => (i.zero, i.size, i.bytes)) = some (some (.int .u8 0), 1, 1) := by kernel_rfl
theorem Try.size5 : (Try.prog.info? 5).map (·.size) = some 1 := by kernel_rfl

/-- What the row 'zs' (the first n of it) holds, as cells. -/
def cellsOf (zs : List Int) : List Value := zs.map (Value.int .u8)

theorem cellsOf_get {zs : List Int} {j : Nat} {v : Value} (h : (cellsOf zs)[j]? = some v) : j < zs.length ∧ v = .int .u8 (zs.getD j 0) := by
  unfold cellsOf at h
  rw [List.getElem?_map] at h
  obtain ⟨z, hz, rfl⟩ := Option.map_eq_some_iff.1 h
  obtain ⟨hlt, e⟩ := List.getElem?_eq_some_iff.1 hz
  exact ⟨hlt, by simp [List.getD_eq_getElem?_getD, hz]⟩

/-- 'zzc := make([]byte, len(data)); copy(zzc, data)': the copy, into the block that was just made. -/
theorem run_copy_bytes (w : World) (len cap : Nat) (x : Addr) (zs : List Int) (hlz : len ≤ zs.length) (hcell : ∀ i, i < zs.length → w.cell? (x.add i) = some (.int .u8 (zs.getD i 0))) :
    ∃ w', (Builtin.copy_ #[22, 22] 3 #[.slice (some ⟨w.heap.size, 0, none⟩) len len, .slice (some x) len cap]).run Try.prog (w.alloc (.cells (madeCells #[.int .u8 0] len) 5)) = .ok (.int .i64 (len : Int)) w' ∧
      Bytes w' (some ⟨w.heap.size, 0, none⟩) len zs ∧ Below w.heap.size w w' ∧ w.heap.size < w'.heap.size := by
  have hlen : (cellsOf (zs.take len)).length = len := by simp [cellsOf]; omega
  have hms : (madeCells #[Value.int .u8 0] len).size = len := size_madeCells _ _
  have hg : (w.alloc (.cells (madeCells #[.int .u8 0] len) 5)).heap[w.heap.size]? = some (.cells (madeCells #[.int .u8 0] len) 5 (0, 0)) := by simp [World.alloc, -World.alloc_eq]
  have hrun := run_copy_row (P := Try.prog) (w.alloc (.cells (madeCells #[.int .u8 0] len) 5)) 22 22 3 5 w.heap.size 0 len len x len cap (madeCells #[.int .u8 0] len) 5 (cellsOf (zs.take len)) Try.underlying22 Try.size5 hg
    (by rw [hlen]; exact (Nat.min_self len).symm)
    (fun j v hj => by
      obtain ⟨hj1, rfl⟩ := cellsOf_get hj
      have hj2 : j < len := by simp at hj1; omega
      have e := hcell j (by omega)
      rw [World.cell?_alloc_some _ _ _ (by rw [e]; rfl), e, getD_take _ _ _ hj2])
    (by rw [hlen, hms]; omega)
    (fun v hv => by unfold cellsOf at hv; obtain ⟨z, _, rfl⟩ := List.mem_map.1 hv; rfl)
  rw [hlen] at hrun
  have hE : (madeCells #[Value.int .u8 0] len).toList.take 0 ++ cellsOf (zs.take len) ++ (madeCells #[Value.int .u8 0] len).toList.drop (0 + len) = cellsOf (zs.take len) := by
    rw [List.drop_eq_nil_of_le (by rw [Array.length_toList, hms]; omega)]; simp
  rw [hE] at hrun
  have hb : Below w.heap.size w ((w.alloc (.cells (madeCells #[.int .u8 0] len) 5)).setRow w.heap.size (cellsOf (zs.take len)).toArray) :=
    below_setRow ((Below.refl _ _).alloc (Nat.le_refl _) _) (Nat.le_refl _) _
  have hg' := setRow_heap (w.alloc (.cells (madeCells #[.int .u8 0] len) 5)) w.heap.size _ (cellsOf (zs.take len)).toArray 5 _ hg
  have hlt : w.heap.size < ((w.alloc (.cells (madeCells #[.int .u8 0] len) 5)).setRow w.heap.size (cellsOf (zs.take len)).toArray).heap.size := by
    simp [World.setRow, World.alloc, -World.alloc_eq]
  refine ⟨_, hrun, ⟨hlz, .inr ⟨_, _, rfl, hlt, fun i hi => ?_⟩⟩, hb, hlt⟩
  have hi' : i < zs.length := by omega
  simp only [World.cell?, hg']
  simp [cellsOf, hi, hi']

theorem below_next {w w2 w3 : World} (h : Below w.heap.size w w2) (k : Below w2.heap.size w2 w3) : Below w.heap.size w w3 := h.trans (k.mono h.size)

/-- An element of such a slice, its first cell at the head of its block. -/
theorem Bytes.head {w : World} {b len : Nat} {zs : List Int} (h : Bytes w (some ⟨b, 0, none⟩) len zs) (i : Nat) (hi : i < len) {z : Int} (hz : z = zs.getD i 0) : w.cell? ⟨b, i, none⟩ = some (.int .u8 z) := by
  obtain ⟨h1, h2⟩ := h
  rcases h2 with h2 | ⟨b', off, e, hlt, hc⟩
  · omega
  · simp only [Option.some.injEq, Addr.mk.injEq] at e
    obtain ⟨rfl, rfl, -⟩ := e
    have := hc i hi
    rw [Nat.zero_add] at this
    rw [this, hz]

theorem bytes_nil (w : World) : Bytes w none 0 [] := ⟨Nat.le_refl _, .inl rfl⟩

theorem blank_any (c : Int) (w : World) : Calls Try.prog 11 #[.int .u8 c] w fun e w' => e = .returned (.bool (blankB c)) ∧ w' = w := by
  cases h1 : (c == 32) with
  | true =>
    rw [blank_32 h1]
    go_enter Try.func11, Try.ntmps11
    go_wp2
    go_ret
    exact ⟨rfl, rfl⟩
  | false =>
  cases h2 : (c == 9) with
  | true =>
    rw [blank_9 h2]
    go_enter Try.func11, Try.ntmps11
    go_wp2
    go_ret
    exact ⟨rfl, rfl⟩
  | false =>
  cases h3 : (c == 10) with
  | true =>
    rw [blank_10 h3]
    go_enter Try.func11, Try.ntmps11
    go_wp2
    go_ret
    exact ⟨rfl, rfl⟩
  | false =>
  cases h4 : (c == 13) with
  | true =>
    rw [blank_13 h4]
    go_enter Try.func11, Try.ntmps11
    go_wp2
    go_ret
    exact ⟨rfl, rfl⟩
  | false =>
    rw [blank_no h1 h2 h3 h4]
    go_enter Try.func11, Try.ntmps11
    go_wp2
    go_ret
    exact ⟨rfl, rfl⟩

/-- The same as 'zzSkip_any', the place where it stops given by a name. -/
theorem zzSkip_is (a : Option Addr) (len cap pos : Nat) (zs : List Int) (q : Nat) (hq : Hid (q = pos + runLen blankB (zs.take len) pos)) (w : World) (hlen : len ≤ 100000) (hpos : pos ≤ len) (hB : Bytes w a len zs) :
    Calls Try.prog 9 #[.slice a len cap, .int .i64 pos] w fun e w' => e = .returned (.int .i64 (q : Int)) ∧ Below w.heap.size w w' := by
  rw [hq.out]; exact zzSkip_any a len cap pos zs w hlen hpos hB

end Go.Proofs.Qxb6619357a
