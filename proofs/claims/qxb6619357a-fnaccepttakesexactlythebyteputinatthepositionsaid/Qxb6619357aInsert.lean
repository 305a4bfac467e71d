/-
  The contract of zzInsertByteAt: a new slice, the old elements with one byte put in at a place.
-/
import Derived.Test.Qxb6619357aShared
namespace Go.Proofs.Qxb6619357a
open Go.RowKit

/-- What lies at place j once c is put in at 'pos'. -/
def insF (zs : List Int) (pos : Nat) (c : Int) (j : Nat) : Int := if j < pos then zs.getD j 0 else if j = pos then c else zs.getD (j - 1) 0

/-- What the block holds so far: the first k places are right. -/
def Filled (w : World) (g len : Nat) (zs : List Int) (pos : Nat) (c : Int) (k : Nat) : Prop :=
  ∃ f : Nat → Value, w.rowIs g 5 (len + 1) f ∧ ∀ j, j < k → f j = .int .u8 (insF zs pos c j)

theorem Bytes.some {w : World} {a : Option Addr} {len : Nat} {zs : List Int} (h : Bytes w a len zs) (hl : 0 < len) :
    ∃ b off, a = .some ⟨b, off, none⟩ ∧ b < w.heap.size ∧ ∀ i, i < len → w.cell? ⟨b, off + i, none⟩ = Option.some (.int .u8 (zs.getD i 0)) := by
  rcases h.2 with h | h
  · omega
  · exact h

theorem Filled.step {w : World} {g len pos k : Nat} {zs : List Int} {c : Int} (h : Filled w g len zs pos c k) {v : Int} (hv : v = insF zs pos c k) :
    Filled (w.setCell ⟨g, k, none⟩ (.int .u8 v)) g len zs pos c (k + 1) := by
  obtain ⟨f, hr, hf⟩ := h
  refine ⟨_, hr.set k (.int .u8 v), fun j hj => ?_⟩
  by_cases e : j = k
  · subst e; simp [hv]
  · simp only [if_neg e]; exact hf j (by omega)

theorem Filled.there {w : World} {g len pos k : Nat} {zs : List Int} {c : Int} (h : Filled w g len zs pos c k) (i : Nat) (hi : i < len + 1) :
    (∃ v, w.cell? ⟨g, i, none⟩ = some v) ∧ w.frozen? ⟨g, i, none⟩ = false := by
  obtain ⟨f, hr, hf⟩ := h
  exact ⟨⟨_, hr.cell hi⟩, hr.frozen i⟩

set_option maxHeartbeats 1000000 in
theorem insert_any (a : Option Addr) (len cap pos : Nat) (zs : List Int) (c : Int) (w : World) (hlen : len ≤ 65536) (hpos : pos ≤ len) (HB : Bytes w a len zs) :
    Calls Try.prog 10 #[.slice a len cap, .int .i64 pos, .int .u8 c] w fun e w' => e = .returned (.slice (some ⟨w.heap.size, 0, none⟩) (len + 1) (len + 1)) ∧ Filled w' w.heap.size len zs pos c (len + 1) ∧ Below w.heap.size w w' := by
  have hmk := run_make_row' (P := Try.prog) 22 5 (.int .u8 0) 1 Try.underlying22 Try.info5 rfl .i64 .i64 (len + 1) (by omega) (by omega)
  have ec : ((len + 1 : Nat) : Int) = (len : Int) + 1 := by omega
  rw [ec] at hmk
  go_enter Try.func10, Try.ntmps10
  go_wp2
  go_loopw [8] (fun i wr => ∃ k : Nat, k ≤ pos ∧ i = .int .i64 k ∧ Filled wr w.heap.size len zs pos c k ∧ Below w.heap.size w wr) (fun i _ => pos - (intOf i).toNat)
  case atStart => exact ⟨0, Nat.zero_le _, rfl, ⟨_, World.rowIs_made _ _ _ _, fun j hj => absurd hj (Nat.not_lt_zero _)⟩, (Below.refl _ _).alloc (Nat.le_refl _) _⟩
  case round =>
    obtain ⟨k, hk, rfl, hfil, hbel⟩ := hrel
    by_cases hkp : k < pos
    · obtain ⟨b, off, rfl, hlt, hc⟩ := HB.some (by omega)
      have hcx : wr.cell? ⟨b, off + k, none⟩ = some (.int .u8 (zs.getD k 0)) := (hbel.cell (by exact hlt)).trans (hc k (by omega))
      clear hc
      obtain ⟨z, hz⟩ : ∃ z, z = zs.getD k 0 := ⟨_, rfl⟩
      rw [← hz] at hcx
      have HZ : Hid (z = zs.getD k 0) := hz
      clear hz
      obtain ⟨⟨v, hv⟩, hfr⟩ := hfil.there k (by omega)
      go_wp2
      go_roundw
      case rel => exact ⟨k + 1, by omega, by go_num, hfil.step (by rw [HZ.out]; simp [insF, hkp]), hbel.setCell (Nat.le_refl _) _⟩
      case measure => simp [intOf]; omega
    · obtain rfl : k = pos := by omega
      obtain ⟨⟨v, hv⟩, hfr⟩ := hfil.there k (by omega)
      go_wp2
      clear hv hfr
      go_loopw [9] (fun i wr => ∃ j : Nat, k ≤ j ∧ j ≤ len ∧ i = .int .i64 j ∧ Filled wr w.heap.size len zs k c (j + 1) ∧ Below w.heap.size w wr) (fun i _ => len - (intOf i).toNat)
      case atStart => exact ⟨k, Nat.le_refl _, hpos, rfl, hfil.step (by simp [insF]), hbel.setCell (Nat.le_refl _) _⟩
      case round =>
        clear hfil hbel
        obtain ⟨j, hkj, hj, rfl, hfil, hbel⟩ := hrel
        by_cases hjl : j < len
        · obtain ⟨b, off, rfl, hlt, hc⟩ := HB.some (by omega)
          have hcx : wr.cell? ⟨b, off + j, none⟩ = some (.int .u8 (zs.getD j 0)) := (hbel.cell (by exact hlt)).trans (hc j (by omega))
          clear hc
          obtain ⟨z, hz⟩ : ∃ z, z = zs.getD j 0 := ⟨_, rfl⟩
          rw [← hz] at hcx
          have HZ : Hid (z = zs.getD j 0) := hz
          clear hz
          obtain ⟨⟨v, hv⟩, hfr⟩ := hfil.there (j + 1) (by omega)
          go_wp2
          go_roundw
          case rel => exact ⟨j + 1, by omega, by omega, by go_num, hfil.step (by rw [HZ.out]; simp only [insF]; rw [if_neg (by omega), if_neg (by omega)]; rfl), hbel.setCell (Nat.le_refl _) _⟩
          case measure => simp [intOf]; omega
        · obtain rfl : j = len := by omega
          go_wp2
          go_ret
          exact ⟨rfl, hfil, hbel⟩


/-- The elements once c is put in at 'pos'. -/
def insL (zs : List Int) (len pos : Nat) (c : Int) : List Int := (zs.take len).take pos ++ c :: (zs.take len).drop pos

theorem insL_length (zs : List Int) (len pos : Nat) (c : Int) (hz : len ≤ zs.length) (hp : pos ≤ len) : (insL zs len pos c).length = len + 1 := by
  simp [insL]; omega

theorem insL_get (zs : List Int) (len pos : Nat) (c : Int) (hz : len ≤ zs.length) (hp : pos ≤ len) (j : Nat) (hj : j < len + 1) : (insL zs len pos c).getD j 0 = insF zs pos c j := by
  have hl : ((zs.take len).take pos).length = pos := by simp; omega
  unfold insL insF
  by_cases h1 : j < pos
  · rw [if_pos h1, List.getD_eq_getElem?_getD, List.getElem?_append_left (by omega)]
    simp [h1, show j < len by omega]
  · rw [if_neg h1, List.getD_eq_getElem?_getD, List.getElem?_append_right (by omega), hl]
    by_cases h2 : j = pos
    · subst h2; simp
    · rw [if_neg h2]
      obtain ⟨m, rfl⟩ : ∃ m, j = pos + 1 + m := ⟨j - (pos + 1), by omega⟩
      have e : pos + 1 + m - pos = m + 1 := by omega
      have e' : pos + 1 + m - 1 = pos + m := by omega
      rw [e, e', List.getElem?_cons_succ, List.getElem?_drop, List.getElem?_take, if_pos (by omega), List.getD_eq_getElem?_getD]

theorem run_ins (p : Int → Bool) (zs : List Int) (len pos : Nat) (c : Int) (hz : len ≤ zs.length) (hp : pos ≤ len) :
    runLen p ((insL zs len pos c).take (len + 1)) pos = if p c = true then runLen p (zs.take len) pos + 1 else 0 := by
  have hl : ((zs.take len).take pos).length = pos := by simp; omega
  have ht : (insL zs len pos c).take (len + 1) = insL zs len pos c := List.take_of_length_le (by rw [insL_length zs len pos c hz hp]; omega)
  have hd : (insL zs len pos c).drop pos = c :: (zs.take len).drop pos := by
    unfold insL
    rw [List.drop_append, List.drop_eq_nil_of_le (by omega), hl]; simp
  unfold runLen
  rw [ht, hd, List.takeWhile_cons]
  split <;> simp

theorem insert_is (a : Option Addr) (len cap pos : Nat) (zs : List Int) (c : Int) (w : World) (hlen : len ≤ 65536) (hpos : pos ≤ len) (HB : Bytes w a len zs) :
    Calls Try.prog 10 #[.slice a len cap, .int .i64 pos, .int .u8 c] w fun e w' => e = .returned (.slice (some ⟨w.heap.size, 0, none⟩) (len + 1) (len + 1)) ∧ Bytes w' (some ⟨w.heap.size, 0, none⟩) (len + 1) (insL zs len pos c) ∧ Below w.heap.size w w' := by
  have hz := HB.1
  refine (insert_any a len cap pos zs c w hlen hpos HB).mono ?_
  rintro e w' ⟨rfl, ⟨f, hr, hf⟩, hb⟩
  refine ⟨rfl, ⟨by rw [insL_length zs len pos c hz hpos]; exact Nat.le_refl _, .inr ⟨_, _, rfl, hr.lt, fun i hi => ?_⟩⟩, hb⟩
  rw [Nat.zero_add, hr.cell hi, hf i hi, insL_get zs len pos c hz hpos i hi]
end Go.Proofs.Qxb6619357a
