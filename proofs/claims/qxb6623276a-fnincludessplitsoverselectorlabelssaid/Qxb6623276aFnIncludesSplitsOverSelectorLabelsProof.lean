/-
  'Rows.FnIncludesSplitsOverSelectorLabelsSaid', proved. The frame is the guide's own way for a law over slices (Derived/Below.lean: 'Below.trod'), turned to strings and slices of strings.
-/
import Derived.Test.Qxb6623276aRows
import Derived.Test.Qxb6623276aLaw
import Derived.Test.Qxb6623276aOut
import Derived.WalkKit
import Derived.ProofKit
import Derived.OpenShut
import Derived.ShutString
import Derived.ChangeOld
import Derived.Below
import Derived.SliceStrings
namespace Go.Proofs.Qxb6623276a.fnIncludesSplitsOverSelectorLabels
open Go.ChangeShapes Go.WideShapes Go.ChangeAt Go.RowKit
open Go.ChangeMaps (open_string shut_string)
set_option linter.unusedVariables false

theorem own : ownKnob Try.prog.godebug = none := by kernel_rfl
theorem laidOut : laidOutB Try.prog = true := by kernel_rfl

/-- From the cells of a slice of strings that came in to what the walk is told of it. -/
theorem strs_of {W : World} {x : Addr} {len : Nat} {ss : List ByteArray} (hl : len ≤ ss.length) (hcell : ∀ i, i < ss.length → W.cell? (x.add i) = some (.string (ss.getD i ByteArray.empty))) : Strs W (some x) len ss := by
  refine ⟨hl, ?_⟩
  by_cases h0 : len = 0
  · exact .inl h0
  obtain ⟨b, off, spot⟩ := x
  have c0 := hcell 0 (by omega)
  have hspot : spot = none := by simpa [Addr.add] using World.cell?_spot c0
  subst hspot
  have hc : ∀ i, i < len → W.cell? ⟨b, off + i, none⟩ = some (.string (ss.getD i ByteArray.empty)) := fun i hi => by rw [← Go.WideShapes.add_plain]; exact hcell i (by omega)
  exact .inr ⟨b, off, rfl, by simpa using World.block_lt_of_cell? _ _ (hc 0 (by omega)), hc⟩

theorem walk (nm : ByteArray) (a1 : Option Addr) (n1 c1 : Nat) (ss1 : List ByteArray) (a2 : Option Addr) (n2 c2 : Nat) (ss2 : List ByteArray) (nx : ByteArray) (a4 : Option Addr) (n4 c4 : Nat) (ss4 : List ByteArray) (a5 : Option Addr) (n5 c5 : Nat) (ss5 : List ByteArray) (cut : Int) (w : World)
    (S1 : Strs w a1 n1 ss1) (S2 : Strs w a2 n2 ss2) (S4 : Strs w a4 n4 ss4) (S5 : Strs w a5 n5 ss5) (z1 : a1 = none → c1 = 0) (z2 : a2 = none → c2 = 0) (z4 : a4 = none → c4 = 0) (z5 : a5 = none → c5 = 0) :
    Calls Try.prog 3 #[.string nm, .slice a1 n1 c1, .slice a2 n2 c2, .string nx, .slice a4 n4 c4, .slice a5 n5 c5, .int .i64 cut] w fun e w' => e = .returned (.bool true) ∧ Below w.heap.size w w' := by
  by_cases ha : 1048576 < nm.size ∨ 1048576 < nx.size
  · exact out_a nm nx a1 a2 a4 a5 n1 n2 n4 n5 c1 c2 c4 c5 ss1 ss2 ss4 ss5 cut w S1 S2 S4 S5 ha
  by_cases hb : 256 < n1 ∨ 256 < n2 ∨ 256 < n4 ∨ 256 < n5
  · exact out_b nm nx a1 a2 a4 a5 n1 n2 n4 n5 c1 c2 c4 c5 ss1 ss2 ss4 ss5 cut w S1 S2 S4 S5 (by omega) (by omega) hb
  by_cases hc : ¬ n1 = n2 ∨ ¬ n4 = n5
  · exact out_c nm nx a1 a2 a4 a5 n1 n2 n4 n5 c1 c2 c4 c5 ss1 ss2 ss4 ss5 cut w S1 S2 S4 S5 (by omega) (by omega) (by omega) (by omega) (by omega) (by omega) hc
  obtain rfl : n1 = n2 := by omega
  obtain rfl : n4 = n5 := by omega
  by_cases hd : cut < 0 ∨ (n4 : Int) < cut
  · exact out_d nm nx a1 a2 a4 a5 n1 n4 c1 c2 c4 c5 ss1 ss2 ss4 ss5 cut w S1 S2 S4 S5 (by omega) (by omega) (by omega) (by omega) hd
  obtain ⟨k, rfl⟩ : ∃ k : Nat, cut = k := ⟨cut.toNat, by omega⟩
  exact law_main nm nx a1 a2 a4 a5 n1 n4 c1 c2 c4 c5 ss1 ss2 ss4 ss5 k w (by omega) (by omega) (by omega) (by omega) (by omega) S1 S2 S4 S5 z1 z2 z4 z5

set_option maxRecDepth 100000 in
theorem lifted (os : Os) (started : os.Started) (H : Type) (enc : TypeId × Value → H) :
    ReturnsInHanded {} Try.checked os 3 .any (Rows.fnIncludesSplitsOverSelectorLabelsSpec.pre6 enc Try.prog Try.f3 Rows.fnIncludesSplitsOverSelectorLabelsRow.domain false) (Rows.fnIncludesSplitsOverSelectorLabelsSpec.post enc Try.prog Try.f3 false true false false) := by
  refine returnsInHanded_of_change (C := Try.checked) own started (by kernel_rfl) Try.func3
    (ChangeSpec.witness6 (enc := enc) (C := Try.checked) false ⟨#[], #[.string ByteArray.empty, .slice none 0 0, .slice none 0 0, .string ByteArray.empty, .slice none 0 0, .slice none 0 0, .int .i64 0], []⟩ 8 (by kernel_rfl) (by kernel_rfl) (by kernel_rfl) (by kernel_rfl)) ?_
  intro W base args ds gs before hval0 hW hcnd _
  have hval : ∀ (j : Nat) t v, Try.f3.params[j]? = some t → args[j]? = some v → Value.okWide Try.prog W .any base t v := hval0
  have hW' := hW
  obtain ⟨p, q, hA0, hV, rfl, hfz, hnd⟩ := hW
  have hA : DataW.TrodAll enc Try.prog W 0 (fun _ => true) true Try.f3.params.toList args.toList ds p := hA0
  rw [Try.params3] at hA hval
  obtain ⟨v0, vs0, d0, ds0, p0, q0, hargs, rfl, rfl, h0, r0⟩ := trodAll_cons hA
  obtain ⟨v1, vs1, d1, ds1, p1, q1, rfl, rfl, rfl, h1, r1⟩ := trodAll_cons r0
  obtain ⟨v2, vs2, d2, ds2, p2, q2, rfl, rfl, rfl, h2, r2⟩ := trodAll_cons r1
  obtain ⟨v3, vs3, d3, ds3, p3, q3, rfl, rfl, rfl, h3, r3⟩ := trodAll_cons r2
  obtain ⟨v4, vs4, d4, ds4, p4, q4, rfl, rfl, rfl, h4, r4⟩ := trodAll_cons r3
  obtain ⟨v5, vs5, d5, ds5, p5, q5, rfl, rfl, rfl, h5, r5⟩ := trodAll_cons r4
  obtain ⟨v6, vs6, d6, ds6, p6, q6, rfl, rfl, rfl, h6, r6⟩ := trodAll_cons r5
  obtain ⟨rfl, rfl, rfl⟩ := trodAll_nil r6
  obtain rfl : args = #[v0, v1, v2, v3, v4, v5, v6] := by cases args; simp_all
  obtain ⟨rfl, rfl⟩ := trodVars_none hV
  obtain ⟨s0, rfl, rfl, rfl, w0⟩ := open_string Try.underlying9 (hval 0 9 v0 rfl rfl) h0
  obtain ⟨s3, rfl, rfl, rfl, w3⟩ := open_string Try.underlying9 (hval 3 9 v3 rfl rfl) h3
  obtain ⟨a1, len1, cap1, rfl⟩ := okWide_slice Try.underlying22 (hval 1 22 v1 rfl rfl)
  have k1 := h1
  have lt1 : ∀ x ∈ p1, x.block < W.heap.size := by obtain ⟨m, hm⟩ := k1; exact DataW.trod_lt m _ _ _ hm
  obtain ⟨ss1, w1, z1⟩ : ∃ ss, Strs W a1 len1 ss ∧ (a1 = none → cap1 = 0) := by
    obtain ⟨fuel, hf⟩ := h1
    rcases open_strings Try.underlying22 Try.underlying9 (by kernel_rfl) hf with ⟨hcs, _⟩ | ⟨x, l, c, ss, hcs, _, hl, hm, hz, _, hcell, hws⟩
    · simp [Value.cells] at hcs
      obtain ⟨rfl, rfl, rfl⟩ := hcs
      exact ⟨[], ⟨Nat.le_refl _, .inl rfl⟩, fun _ => rfl⟩
    · simp [Value.cells] at hcs
      obtain ⟨rfl, rfl, rfl⟩ := hcs
      exact ⟨ss, strs_of (by simp at hz; omega) hcell, fun h => by simp at h⟩
  obtain ⟨a2, len2, cap2, rfl⟩ := okWide_slice Try.underlying22 (hval 2 22 v2 rfl rfl)
  have k2 := h2
  have lt2 : ∀ x ∈ p2, x.block < W.heap.size := by obtain ⟨m, hm⟩ := k2; exact DataW.trod_lt m _ _ _ hm
  obtain ⟨ss2, w2, z2⟩ : ∃ ss, Strs W a2 len2 ss ∧ (a2 = none → cap2 = 0) := by
    obtain ⟨fuel, hf⟩ := h2
    rcases open_strings Try.underlying22 Try.underlying9 (by kernel_rfl) hf with ⟨hcs, _⟩ | ⟨x, l, c, ss, hcs, _, hl, hm, hz, _, hcell, hws⟩
    · simp [Value.cells] at hcs
      obtain ⟨rfl, rfl, rfl⟩ := hcs
      exact ⟨[], ⟨Nat.le_refl _, .inl rfl⟩, fun _ => rfl⟩
    · simp [Value.cells] at hcs
      obtain ⟨rfl, rfl, rfl⟩ := hcs
      exact ⟨ss, strs_of (by simp at hz; omega) hcell, fun h => by simp at h⟩
  obtain ⟨a4, len4, cap4, rfl⟩ := okWide_slice Try.underlying22 (hval 4 22 v4 rfl rfl)
  have k4 := h4
  have lt4 : ∀ x ∈ p4, x.block < W.heap.size := by obtain ⟨m, hm⟩ := k4; exact DataW.trod_lt m _ _ _ hm
  obtain ⟨ss4, w4, z4⟩ : ∃ ss, Strs W a4 len4 ss ∧ (a4 = none → cap4 = 0) := by
    obtain ⟨fuel, hf⟩ := h4
    rcases open_strings Try.underlying22 Try.underlying9 (by kernel_rfl) hf with ⟨hcs, _⟩ | ⟨x, l, c, ss, hcs, _, hl, hm, hz, _, hcell, hws⟩
    · simp [Value.cells] at hcs
      obtain ⟨rfl, rfl, rfl⟩ := hcs
      exact ⟨[], ⟨Nat.le_refl _, .inl rfl⟩, fun _ => rfl⟩
    · simp [Value.cells] at hcs
      obtain ⟨rfl, rfl, rfl⟩ := hcs
      exact ⟨ss, strs_of (by simp at hz; omega) hcell, fun h => by simp at h⟩
  obtain ⟨a5, len5, cap5, rfl⟩ := okWide_slice Try.underlying22 (hval 5 22 v5 rfl rfl)
  have k5 := h5
  have lt5 : ∀ x ∈ p5, x.block < W.heap.size := by obtain ⟨m, hm⟩ := k5; exact DataW.trod_lt m _ _ _ hm
  obtain ⟨ss5, w5, z5⟩ : ∃ ss, Strs W a5 len5 ss ∧ (a5 = none → cap5 = 0) := by
    obtain ⟨fuel, hf⟩ := h5
    rcases open_strings Try.underlying22 Try.underlying9 (by kernel_rfl) hf with ⟨hcs, _⟩ | ⟨x, l, c, ss, hcs, _, hl, hm, hz, _, hcell, hws⟩
    · simp [Value.cells] at hcs
      obtain ⟨rfl, rfl, rfl⟩ := hcs
      exact ⟨[], ⟨Nat.le_refl _, .inl rfl⟩, fun _ => rfl⟩
    · simp [Value.cells] at hcs
      obtain ⟨rfl, rfl, rfl⟩ := hcs
      exact ⟨ss, strs_of (by simp at hz; omega) hcell, fun h => by simp at h⟩
  obtain ⟨a6, rfl, rfl, rfl, w6⟩ := open_int Try.underlying3 (hval 6 3 v6 rfl rfl) h6
  clear hA0 hval0
  refine (walk s0 a1 len1 cap1 ss1 a2 len2 cap2 ss2 s3 a4 len4 cap4 ss4 a5 len5 cap5 ss5 a6 W w1 w2 w4 w5 z1 z2 z4 z5).mono fun e W' ⟨he, bel⟩ => ?_
  subst he
  exact ⟨_, rfl, _, _, _, [], _, [], hW', trodAll_mk1 (shut_bool Try.underlying4 _), (trodAll_cons_mk (shut_string Try.underlying9 w0) (trodAll_cons_mk (Below.trod laidOut (by kernel_rfl) (of_decide_eq_true (by kernel_rfl)) k1 bel lt1) (trodAll_cons_mk (Below.trod laidOut (by kernel_rfl) (of_decide_eq_true (by kernel_rfl)) k2 bel lt2) (trodAll_cons_mk (shut_string Try.underlying9 w3) (trodAll_cons_mk (Below.trod laidOut (by kernel_rfl) (of_decide_eq_true (by kernel_rfl)) k4 bel lt4) (trodAll_cons_mk (Below.trod laidOut (by kernel_rfl) (of_decide_eq_true (by kernel_rfl)) k5 bel lt5) (trodAll_cons_mk (shut_int Try.underlying3 w6) trodAll_mk0))))))), rfl, bel.frame _, fun h => by cases h⟩

theorem over : Rows.fnIncludesSplitsOverSelectorLabelsRow.holds Try.pinned (OpenSpec.ofChange Rows.fnIncludesSplitsOverSelectorLabelsSpec) :=
  OpenClaim.holds_of_wide 3 Try.f3 rfl rfl rfl rfl rfl rfl rfl ⟨rfl, rfl, rfl, rfl, rfl⟩ rfl rfl rfl rfl rfl (by kernel_rfl) Try.func3 (by kernel_rfl)
    (of_decide_eq_true (by kernel_rfl)) (by unfold Func.isWrapper; first | (rw [if_pos (by decide +kernel)]; kernel_rfl) | (rw [if_neg (by decide +kernel)]; exact ⟨rfl, rfl⟩))
    (fun os started H enc _ => lifted os started H enc)

/-- THE STATEMENT -/
theorem proved : Rows.FnIncludesSplitsOverSelectorLabelsSaid := over
#print axioms proved
end Go.Proofs.Qxb6623276a.fnIncludesSplitsOverSelectorLabels
