/-
  'Rows.FnNextReturnsNameEncodedAtEntrySaid', proved. The frame is the guide's own way for a law over slices (Derived/Below.lean: 'Below.trod'), turned to a slice of slices of bytes.
-/
import Derived.Test.Qxb6623338aRows
import Derived.Test.Qxb6623338aLaw
import Derived.WalkKit
import Derived.ProofKit
import Derived.OpenShut
import Derived.ChangeOld
import Derived.Below
import Derived.Deep.Matrix
namespace Go.Proofs.Qxb6623338a.fnNextReturnsNameEncodedAtEntry
open Go.ChangeShapes Go.WideShapes Go.ChangeAt Go.RowKit
set_option linter.unusedVariables false

theorem own : ownKnob Try.prog.godebug = none := by kernel_rfl
theorem laidOut : laidOutB Try.prog = true := by kernel_rfl

/-- An address at which a cell lies is a plain one. -/
theorem plain_of {W : World} {x : Addr} {v : Value} (h : W.cell? (x.add 0) = some v) : ∃ b off, x = ⟨b, off, none⟩ ∧ b < W.heap.size := by
  obtain ⟨b, off, spot⟩ := x
  have hspot : spot = none := by simpa [Addr.add] using World.cell?_spot h
  subst hspot
  rw [Go.WideShapes.add_plain] at h
  exact ⟨b, off, rfl, by simpa using World.block_lt_of_cell? _ _ h⟩

/-- From the cells of a slice of slices that came in to what the walk is told of it. -/
theorem pages_of {W : World} {x : Addr} {len cap : Nat} (A : Nat → Option Addr) (L C : Nat → Nat) (Z : Nat → List Int) (hl : len ≤ cap)
    (h : ∀ r, r < cap → W.cell? (x.add r) = some (.slice (A r) (L r) (C r)) ∧ L r ≤ C r ∧ C r ≤ maxLen ∧ (Z r).length = C r ∧ (∀ n ∈ Z r, (Lit.int .u8 n).wf = true) ∧ (A r = none → C r = 0) ∧
        ∀ a', A r = some a' → 0 ≤ a'.block ∧ ∀ c, c < C r → W.cell? (a'.add c) = some (.int .u8 ((Z r).getD c 0))) :
    ∃ (A' : Nat → Option Addr) (L' C' : Nat → Nat) (Z' : Nat → Nat → Int), Pages W (some x) len A' L' C' Z' ∧ (∀ r, L' r ≤ 9223372036854775807) ∧ ∀ r i, 0 ≤ Z' r i ∧ Z' r i ≤ 255 := by
  refine ⟨A, fun r => if r < len then L r else 0, C, fun r i => if r < len then (Z r).getD i 0 else 0, ?_, ?_, ?_⟩
  · by_cases h0 : len = 0
    · exact .inl h0
    obtain ⟨b, off, rfl, hb⟩ := plain_of (h 0 (by omega)).1
    refine .inr ⟨b, off, rfl, hb, fun r hr => ?_⟩
    obtain ⟨hc, hLC, hCm, hZl, hwf, hnil, hrow⟩ := h r (by omega)
    rw [Go.WideShapes.add_plain] at hc
    simp only [if_pos hr]
    refine ⟨hc, ?_⟩
    by_cases hL0 : L r = 0
    · exact .inl hL0
    cases hA : A r with
    | none => have := hnil hA; omega
    | some a' =>
      obtain ⟨_, hcs⟩ := hrow a' hA
      obtain ⟨b', off', rfl, hb'⟩ := plain_of (hcs 0 (by omega))
      refine .inr ⟨b', off', rfl, hb', fun i hi => ?_⟩
      have := hcs i (by omega)
      rw [Go.WideShapes.add_plain] at this
      exact this
  · intro r
    by_cases hr : r < len
    · obtain ⟨_, hLC, hCm, _⟩ := h r (by omega)
      simp only [if_pos hr]
      unfold maxLen at hCm
      omega
    · simp only [if_neg hr]; omega
  · intro r i
    by_cases hr : r < len
    · obtain ⟨_, _, _, _, hwf, _⟩ := h r (by omega)
      simp only [if_pos hr]
      by_cases hi : i < (Z r).length
      · have hm : (Z r).getD i 0 ∈ Z r := by
          rw [List.getD_eq_getElem?_getD, List.getElem?_eq_getElem hi]
          exact List.getElem_mem hi
        exact bounds_u8 (hwf _ hm)
      · rw [List.getD_eq_getElem?_getD, List.getElem?_eq_none (by omega)]
        exact ⟨by simp, by simp⟩
    · simp only [if_neg hr]; omega

theorem pages_nil (W : World) : ∃ (A' : Nat → Option Addr) (L' C' : Nat → Nat) (Z' : Nat → Nat → Int), Pages W none 0 A' L' C' Z' ∧ (∀ r, L' r ≤ 9223372036854775807) ∧ ∀ r i, 0 ≤ Z' r i ∧ Z' r i ≤ 255 :=
  ⟨fun _ => none, fun _ => 0, fun _ => 0, fun _ _ => 0, .inl rfl, fun _ => Nat.zero_le _, fun _ _ => ⟨Int.le_refl 0, by show (0 : Int) ≤ 255; omega⟩⟩

set_option maxRecDepth 100000 in
theorem lifted (os : Os) (started : os.Started) (H : Type) (enc : TypeId × Value → H) :
    ReturnsInHanded {} Try.checked os 3 .any (Rows.fnNextReturnsNameEncodedAtEntrySpec.pre6 enc Try.prog Try.f3 Rows.fnNextReturnsNameEncodedAtEntryRow.domain false) (Rows.fnNextReturnsNameEncodedAtEntrySpec.post enc Try.prog Try.f3 false true false false) := by
  refine returnsInHanded_of_change (C := Try.checked) own started (by kernel_rfl) Try.func3
    (ChangeSpec.witness6 (enc := enc) (C := Try.checked) false ⟨#[], #[.slice none 0 0, .int .i64 0, .int .i64 0, .int .i64 0, .int .i64 0, .int .i64 0], []⟩ 8 (by kernel_rfl) (by kernel_rfl) (by kernel_rfl) (by kernel_rfl)) ?_
  intro W base args ds gs before hval0 hW hcnd _
  have hval : ∀ (j : Nat) t v, Try.f3.params[j]? = some t → args[j]? = some v → Value.okWide Try.prog W .any base t v := hval0
  have hW' := hW
  obtain ⟨p, q, hA0, hV, rfl, hfz, hnd⟩ := hW
  have hA : DataW.TrodAll enc Try.prog W 0 (fun _ => true) true Try.f3.params.toList args.toList ds p := hA0
  rw [Try.params3] at hA hval
  obtain ⟨v0, vs0, d0, ds0, p0, q0, hargs, rfl, rfl, h0, r0⟩ := trodAll_cons hA
  obtain ⟨v1, vs1, d1, ds1, p1, q1, rfl, rfl, rfl, h1, r1⟩ := trodAll_cons r0
  obtain ⟨v2, vs2, d2, ds2, p2, q2, rfl, rfl, rfl, h2, r2⟩ := trodAll_cons r1
  obtain ⟨v3, vs3, d3, ds3, p3, q3, rfl, rfl, rfl, h3, r3⟩ := trodAll_cons r2
  obtain ⟨v4, vs4, d4, ds4, p4, q4, rfl, rfl, rfl, h4, r4⟩ := trodAll_cons r3
  obtain ⟨v5, vs5, d5, ds5, p5, q5, rfl, rfl, rfl, h5, r5⟩ := trodAll_cons r4
  obtain ⟨rfl, rfl, rfl⟩ := trodAll_nil r5
  obtain rfl : args = #[v0, v1, v2, v3, v4, v5] := by cases args; simp_all
  obtain ⟨rfl, rfl⟩ := trodVars_none hV
  obtain ⟨a0, len0, cap0, rfl⟩ := okWide_slice Try.underlying22 (hval 0 22 v0 rfl rfl)
  have k0 := h0
  have lt0 : ∀ x ∈ p0, x.block < W.heap.size := by obtain ⟨m, hm⟩ := k0; exact DataW.trod_lt m _ _ _ hm
  obtain ⟨A, L, C, Z, hP, hL, hZ⟩ : ∃ (A' : Nat → Option Addr) (L' C' : Nat → Nat) (Z' : Nat → Nat → Int), Pages W a0 len0 A' L' C' Z' ∧ (∀ r, L' r ≤ 9223372036854775807) ∧ ∀ r i, 0 ≤ Z' r i ∧ Z' r i ≤ 255 := by
    obtain ⟨fuel, hf⟩ := h0
    rcases Go.Deep.open_int_rows Try.underlying22 Try.underlying24 Try.underlying5 (by kernel_rfl) (by kernel_rfl) hf with ⟨hcs, _⟩ | ⟨x, l, cp, A, L, C, Z, hcs, _, hl, hm, _, hrows⟩
    · simp [Value.cells] at hcs
      obtain ⟨rfl, rfl, rfl⟩ := hcs
      exact pages_nil W
    · simp [Value.cells] at hcs
      obtain ⟨rfl, rfl, rfl⟩ := hcs
      exact pages_of A L C Z hl hrows
  obtain ⟨a1, rfl, rfl, rfl, w1⟩ := open_int Try.underlying3 (hval 1 3 v1 rfl rfl) h1
  obtain ⟨a2, rfl, rfl, rfl, w2⟩ := open_int Try.underlying3 (hval 2 3 v2 rfl rfl) h2
  obtain ⟨a3, rfl, rfl, rfl, w3⟩ := open_int Try.underlying3 (hval 3 3 v3 rfl rfl) h3
  obtain ⟨a4, rfl, rfl, rfl, w4⟩ := open_int Try.underlying3 (hval 4 3 v4 rfl rfl) h4
  obtain ⟨a5, rfl, rfl, rfl, w5⟩ := open_int Try.underlying3 (hval 5 3 v5 rfl rfl) h5
  clear hA0 hval0
  refine (law_any a0 len0 cap0 A L C Z a1 a2 a3 a4 a5 W hP hL hZ (bounds_i64 w5).2).mono fun e W' ⟨he, bel⟩ => ?_
  subst he
  exact ⟨_, rfl, _, _, _, [], _, [], hW', trodAll_mk1 (shut_bool Try.underlying4 _), (trodAll_cons_mk (Below.trod laidOut (by kernel_rfl) (of_decide_eq_true (by kernel_rfl)) k0 bel lt0) (trodAll_cons_mk (shut_int Try.underlying3 w1) (trodAll_cons_mk (shut_int Try.underlying3 w2) (trodAll_cons_mk (shut_int Try.underlying3 w3) (trodAll_cons_mk (shut_int Try.underlying3 w4) (trodAll_cons_mk (shut_int Try.underlying3 w5) trodAll_mk0)))))), rfl, bel.frame _, fun h => by cases h⟩

theorem over : Rows.fnNextReturnsNameEncodedAtEntryRow.holds Try.pinned (OpenSpec.ofChange Rows.fnNextReturnsNameEncodedAtEntrySpec) :=
  OpenClaim.holds_of_wide 3 Try.f3 rfl rfl rfl rfl rfl rfl rfl ⟨rfl, rfl, rfl, rfl, rfl⟩ rfl rfl rfl rfl rfl (by kernel_rfl) Try.func3 (by kernel_rfl)
    (of_decide_eq_true (by kernel_rfl)) (by unfold Func.isWrapper; first | (rw [if_pos (by decide +kernel)]; kernel_rfl) | (rw [if_neg (by decide +kernel)]; exact ⟨rfl, rfl⟩))
    (fun os started H enc _ => lifted os started H enc)

/-- THE STATEMENT -/
theorem proved : Rows.FnNextReturnsNameEncodedAtEntrySaid := over
#print axioms proved
end Go.Proofs.Qxb6623338a.fnNextReturnsNameEncodedAtEntry
