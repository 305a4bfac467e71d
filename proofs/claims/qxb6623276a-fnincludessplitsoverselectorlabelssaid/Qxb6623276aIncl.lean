/-
  The contracts of (Series).includes and ZZIncludes.
-/
import Derived.Test.Qxb6623276aSeries
namespace Go.Proofs.Qxb6623276a
open Go.RowKit

/-- The labels of a series, as its block holds them. -/
def Labels (w : World) (g n : Nat) (ns vs : List ByteArray) : Prop :=
  g < w.heap.size ∧ ∀ j, j < n → w.cell? ⟨g, j * 2, none⟩ = some (.string (ns.getD j ByteArray.empty)) ∧ w.cell? ⟨g, j * 2 + 1, none⟩ = some (.string (vs.getD j ByteArray.empty))

theorem Laid.labels {w : World} {g n : Nat} {ns vs : List ByteArray} (h : Laid w g n ns vs n) : Labels w g n ns vs := by
  obtain ⟨f, hr, hf⟩ := h
  refine ⟨hr.lt, fun j hj => ?_⟩
  rw [hr.cell (by omega), hr.cell (by omega), (hf j hj).1, (hf j hj).2]
  exact ⟨rfl, rfl⟩

theorem Labels.below {w w' : World} {g n : Nat} {ns vs : List ByteArray} (h : Labels w g n ns vs) (hb : Below w.heap.size w w') : Labels w' g n ns vs :=
  ⟨Nat.lt_of_lt_of_le h.1 hb.size, fun j hj => ⟨(hb.cell (by exact h.1)).trans (h.2 j hj).1, (hb.cell (by exact h.1)).trans (h.2 j hj).2⟩⟩

/-- The value of the last of the first k labels whose name is x; empty where there is none. -/
def look (ns vs : List ByteArray) (x : ByteArray) : Nat → ByteArray
  | 0 => ByteArray.empty
  | k + 1 => if (ns.getD k ByteArray.empty).toList == x.toList then vs.getD k ByteArray.empty else look ns vs x k

/-- Does each of the first k wanted labels hold? -/
def allOk (ns vs ms us : List ByteArray) (n : Nat) : Nat → Bool
  | 0 => true
  | k + 1 => allOk ns vs ms us n k && ((look ns vs (ms.getD k ByteArray.empty) n).toList == (us.getD k ByteArray.empty).toList)

theorem look_yes {ns vs : List ByteArray} {x p q : ByteArray} {j : Nat} (hp : p = ns.getD j ByteArray.empty) (hq : q = vs.getD j ByteArray.empty) (h : (p.toList == x.toList) = true) : q = look ns vs x (j + 1) := by
  rw [look, ← hp, if_pos h, hq]
theorem look_no {ns vs : List ByteArray} {x p t : ByteArray} {j : Nat} (hp : p = ns.getD j ByteArray.empty) (ht : t = look ns vs x j) (h : (p.toList == x.toList) = false) : t = look ns vs x (j + 1) := by
  rw [look, ← hp, if_neg (by simp only [h]; exact Bool.false_ne_true), ht]
theorem all_pass {ns vs ms us : List ByteArray} {n k : Nat} (h : allOk ns vs ms us n k = true) (e : (!(look ns vs (ms.getD k ByteArray.empty) n).toList == (us.getD k ByteArray.empty).toList) = false) : allOk ns vs ms us n (k + 1) = true := by
  rw [allOk, h, Bool.true_and]; simpa using e
theorem all_fail {ns vs ms us : List ByteArray} {n k m : Nat} (hk : k < m) (e : (!(look ns vs (ms.getD k ByteArray.empty) n).toList == (us.getD k ByteArray.empty).toList) = true) : allOk ns vs ms us n m = false := by
  induction m with
  | zero => omega
  | succ m ih =>
    rw [allOk]
    by_cases h : k = m
    · subst h
      have e' : ((look ns vs (ms.getD k ByteArray.empty) n).toList == (us.getD k ByteArray.empty).toList) = false := by simpa using e
      rw [e', Bool.and_false]
    · rw [ih (by omega), Bool.false_and]

set_option maxHeartbeats 1000000 in
theorem includes_same (nm nx : ByteArray) (hnx : (nm.toList == nx.toList) = true) (g n h m : Nat) (ns vs ms us : List ByteArray) (w : World) (hn : n ≤ 1048576) (hm : m ≤ 1048576) (L1 : Labels w g n ns vs) (L2 : Labels w h m ms us) :
    Calls Try.prog 8 #[.agg #[.string nm, .slice (some ⟨g, 0, none⟩) n n], .agg #[.string nx, .slice (some ⟨h, 0, none⟩) m m]] w fun e w' => e = .returned (.bool (allOk ns vs ms us n m)) ∧ Below w.heap.size w w' := by
  go_enter Try.func8, Try.ntmps8
  go_wp2
  go_loopw [18] (fun i wr => ∃ k : Nat, k ≤ m ∧ i = .int .i64 k ∧ allOk ns vs ms us n k = true ∧ wr.cell? ⟨w.heap.size, 1, none⟩ = some (.slice (some ⟨g, 0, none⟩) n n) ∧ w.heap.size + 1 < wr.heap.size ∧ Below w.heap.size w wr) (fun i _ => m - (intOf i).toNat)
  case atStart => exact ⟨0, Nat.zero_le _, rfl, rfl, by simp [go_sem], by simp, ((Below.refl _ _).alloc (Nat.le_refl _) _).alloc (by simp) _⟩
  case round =>
    rename World => wo
    obtain ⟨k, hk, rfl, hok, hs1, hsz, hbel⟩ := hrel
    have HO : Hid (allOk ns vs ms us n k = true) := hok
    clear hok
    by_cases hlt : k < m
    · obtain ⟨x, hx⟩ : ∃ s, s = ms.getD k ByteArray.empty := ⟨_, rfl⟩
      obtain ⟨y, hy⟩ : ∃ s, s = us.getD k ByteArray.empty := ⟨_, rfl⟩
      have e1 : wo.cell? ⟨h, k * 2, none⟩ = some (.string x) := by rw [hx]; exact (hbel.cell (by exact L2.1)).trans (L2.2 k hlt).1
      have e2 : wo.cell? ⟨h, k * 2 + 1, none⟩ = some (.string y) := by rw [hy]; exact (hbel.cell (by exact L2.1)).trans (L2.2 k hlt).2
      have HX : Hid (x = ms.getD k ByteArray.empty) := hx
      have HY : Hid (y = us.getD k ByteArray.empty) := hy
      clear hx hy
      have hsz' : w.heap.size < wo.heap.size := by omega
      go_wp2
      go_loopw [7, 25] (fun t i wr => ∃ j : Nat, j ≤ n ∧ i = .int .i64 j ∧ t = .string (look ns vs x j) ∧ Below (wo.heap.size + 1) (wo.alloc (.cells #[.string x, .string y] 31)) wr) (fun _ i _ => n - (intOf i).toNat)
      case atStart => exact ⟨0, Nat.zero_le _, rfl, rfl, Below.refl _ _⟩
      case round =>
        obtain ⟨j, hj, rfl, rfl, hbv⟩ := hrel
        have hx1 : wr.cell? ⟨wo.heap.size, 0, none⟩ = some (.string x) := (hbv.cell (by simp)).trans (by simp)
        have hx2 : wr.cell? ⟨wo.heap.size, 1, none⟩ = some (.string y) := (hbv.cell (by simp)).trans (by simp)
        have hvs : wo.heap.size < wr.heap.size := by have := hbv.size; simp at this; omega
        by_cases hjl : j < n
        · obtain ⟨p, hp⟩ : ∃ s, s = ns.getD j ByteArray.empty := ⟨_, rfl⟩
          obtain ⟨q, hq⟩ : ∃ s, s = vs.getD j ByteArray.empty := ⟨_, rfl⟩
          have d1 : wr.cell? ⟨g, j * 2, none⟩ = some (.string p) := by
            have hg := L1.1
            rw [hp, hbv.cell (by show g < wo.heap.size + 1; omega), World.cell?_alloc_past _ _ _ (by omega)]
            exact (hbel.cell (by exact L1.1)).trans (L1.2 j hjl).1
          have d2 : wr.cell? ⟨g, j * 2 + 1, none⟩ = some (.string q) := by
            have hg := L1.1
            rw [hq, hbv.cell (by show g < wo.heap.size + 1; omega), World.cell?_alloc_past _ _ _ (by omega)]
            exact (hbel.cell (by exact L1.1)).trans (L1.2 j hjl).2
          have HP : Hid (p = ns.getD j ByteArray.empty) := hp
          have HQ : Hid (q = vs.getD j ByteArray.empty) := hq
          obtain ⟨t, ht⟩ : ∃ t, t = look ns vs x j := ⟨_, rfl⟩
          rw [← ht]
          have HT : Hid (t = look ns vs x j) := ht
          clear hp hq ht
          go_wp2
          all_goals go_roundw
          case rel =>
            first
              | exact ⟨j + 1, by omega, by go_num, congrArg Value.string (look_yes HP.out HQ.out (by assumption)), hbv.alloc (by omega) _⟩
              | exact ⟨j + 1, by omega, by go_num, congrArg Value.string (look_no HP.out HT.out (by assumption)), hbv.alloc (by omega) _⟩
          case measure => simp [intOf]; omega
          case rel =>
            first
              | exact ⟨j + 1, by omega, by go_num, congrArg Value.string (look_yes HP.out HQ.out (by assumption)), hbv.alloc (by omega) _⟩
              | exact ⟨j + 1, by omega, by go_num, congrArg Value.string (look_no HP.out HT.out (by assumption)), hbv.alloc (by omega) _⟩
          case measure => simp [intOf]; omega
        · obtain rfl : j = n := by omega
          have hw1 : Below w.heap.size w wr := ((hbel.alloc (by omega) _).trans (hbv.mono (by omega)))
          have hs1' : wr.cell? ⟨w.heap.size, 1, none⟩ = some (.slice (some ⟨g, 0, none⟩) j j) := by
            rw [hbv.cell (by show w.heap.size < wo.heap.size + 1; omega), World.cell?_alloc_past _ _ _ (by omega)]; exact hs1
          obtain ⟨t, ht⟩ : ∃ t, t = look ns vs x j := ⟨_, rfl⟩
          rw [← ht]
          have HT : Hid (t = look ns vs x j) := ht
          clear ht
          go_wp2
          · go_ret
            refine ⟨?_, hw1⟩
            rw [all_fail (k := k) hlt (by rw [← HX.out, ← HY.out, ← HT.out]; assumption)]; rfl
          · go_roundw
            case rel => exact ⟨k + 1, by omega, by go_num, all_pass HO.out (by rw [← HX.out, ← HY.out, ← HT.out]; assumption), hs1', by omega, hw1⟩
            case measure => simp [intOf]; omega
    · go_wp2
      obtain rfl : k = m := by omega
      rw [HO.out]
      go_ret
      exact ⟨rfl, hbel⟩

theorem includes_other (nm nx : ByteArray) (hne : (nm.toList == nx.toList) = false) (g n h m : Nat) (w : World) :
    Calls Try.prog 8 #[.agg #[.string nm, .slice (some ⟨g, 0, none⟩) n n], .agg #[.string nx, .slice (some ⟨h, 0, none⟩) m m]] w fun e w' => e = .returned (.bool false) ∧ Below w.heap.size w w' := by
  go_enter Try.func8, Try.ntmps8
  go_wp2
  go_ret
  exact ⟨rfl, ((Below.refl _ _).alloc (Nat.le_refl _) _).alloc (by simp) _⟩

/-- What includes answers. -/
def inclB (nm : ByteArray) (n : Nat) (ns vs : List ByteArray) (nx : ByteArray) (m : Nat) (ms us : List ByteArray) : Bool := (nm.toList == nx.toList) && allOk ns vs ms us n m

theorem includes_any (nm nx : ByteArray) (g n h m : Nat) (ns vs ms us : List ByteArray) (w : World) (hn : n ≤ 1048576) (hm : m ≤ 1048576) (L1 : Labels w g n ns vs) (L2 : Labels w h m ms us) :
    Calls Try.prog 8 #[.agg #[.string nm, .slice (some ⟨g, 0, none⟩) n n], .agg #[.string nx, .slice (some ⟨h, 0, none⟩) m m]] w fun e w' => e = .returned (.bool (inclB nm n ns vs nx m ms us)) ∧ Below w.heap.size w w' := by
  cases hx : (nm.toList == nx.toList) with
  | true => rw [inclB, hx, Bool.true_and]; exact includes_same nm nx hx g n h m ns vs ms us w hn hm L1 L2
  | false => rw [inclB, hx, Bool.false_and]; exact includes_other nm nx hx g n h m w

set_option maxHeartbeats 400000 in
theorem zzIncl_any (nm nx : ByteArray) (g n h m : Nat) (ns vs ms us : List ByteArray) (w : World) (hn : n ≤ 1048576) (hm : m ≤ 1048576) (L1 : Labels w g n ns vs) (L2 : Labels w h m ms us) :
    Calls Try.prog 7 #[.agg #[.string nm, .slice (some ⟨g, 0, none⟩) n n], .agg #[.string nx, .slice (some ⟨h, 0, none⟩) m m]] w fun e w' => e = .returned (.bool (inclB nm n ns vs nx m ms us)) ∧ Below w.heap.size w w' := by
  obtain ⟨B, hB⟩ : ∃ B, B = inclB nm n ns vs nx m ms us := ⟨_, rfl⟩
  rw [← hB]
  have HB : Hid (B = inclB nm n ns vs nx m ms us) := hB
  clear hB
  go_enter Try.func7, Try.ntmps7
  go_wp2_with fail
  have hb : ∀ o1 o2, Below w.heap.size w ((w.alloc o1).alloc o2) := fun o1 o2 => ((Below.refl _ _).alloc (Nat.le_refl _) _).alloc (by simp) _
  refine (includes_any nm nx g n h m ns vs ms us _ hn hm (L1.below (hb _ _)) (L2.below (hb _ _))).mono ?_
  rw [← HB.out]
  rintro e w2 ⟨rfl, hb2⟩
  go_wp2
  go_ret
  exact ⟨rfl, (hb _ _).trans (hb2.mono (by simp; omega))⟩
end Go.Proofs.Qxb6623276a
