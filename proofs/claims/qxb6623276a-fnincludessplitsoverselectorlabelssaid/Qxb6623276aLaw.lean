/-
  The walk of FnIncludesSplitsOverSelectorLabels.
-/
import Derived.Test.Qxb6623276aCopy
namespace Go.Proofs.Qxb6623276a
open Go.RowKit

/-- The copied slice lies at the head of a block of its own, or is nil (and empty). -/
def Own (a : Option Addr) (n : Nat) : Prop := (a = none ∧ n = 0) ∨ ∃ g, a = some ⟨g, 0, none⟩

theorem below_next {w w2 w3 : World} (h : Below w.heap.size w w2) (k : Below w2.heap.size w2 w3) : Below w.heap.size w w3 := h.trans (k.mono h.size)

/-- A series that lies in block blk: its name, its labels in block g. -/
def Ser (w : World) (blk : Nat) (nm : ByteArray) (g n : Nat) (ns vs : List ByteArray) : Prop :=
  blk < w.heap.size ∧ w.cell? ⟨blk, 0, none⟩ = some (.string nm) ∧ w.cell? ⟨blk, 1, none⟩ = some (.slice (some ⟨g, 0, none⟩) n n) ∧ Labels w g n ns vs

theorem Ser.below {w w' : World} {blk g n : Nat} {nm : ByteArray} {ns vs : List ByteArray} (h : Ser w blk nm g n ns vs) (hb : Below w.heap.size w w') : Ser w' blk nm g n ns vs :=
  ⟨Nat.lt_of_lt_of_le h.1 hb.size, (hb.cell (by exact h.1)).trans h.2.1, (hb.cell (by exact h.1)).trans h.2.2.1, h.2.2.2.below hb⟩

/-- 's := ZZSeries(..)': the result laid in a block of its own. -/
theorem ser_new {w0 w : World} {g n : Nat} {nm : ByteArray} {ns vs : List ByteArray} (hL : Laid w g n ns vs n) (hb : Below w0.heap.size w0 w) :
    Ser (w.alloc (.cells #[.string nm, .slice (some ⟨g, 0, none⟩) n n] 27)) w.heap.size nm g n ns vs ∧ Below w0.heap.size w0 (w.alloc (.cells #[.string nm, .slice (some ⟨g, 0, none⟩) n n] 27)) :=
  ⟨⟨by simp, by simp, by simp, hL.labels.below ((Below.refl _ _).alloc (Nat.le_refl _) _)⟩, hb.alloc hb.size _⟩

/-- 'xs[cut:]', as the walk writes its address. -/
theorem Strs.tail {w : World} {p m cut : Nat} {ss : List ByteArray} (h : Strs w (some ⟨p, 0, none⟩) m ss) (hc : cut ≤ m) :
    Strs w (if m = cut then some ⟨p, 0, none⟩ else some ⟨p, cut, none⟩) (m - cut) (ss.drop cut) := by
  obtain ⟨h1, h2⟩ := h
  refine ⟨by simp; omega, ?_⟩
  by_cases e : m = cut
  · exact .inl (by omega)
  · rw [if_neg e]
    rcases h2 with h2 | ⟨b, off, e2, hlt, hcell⟩
    · omega
    · simp only [Option.some.injEq, Addr.mk.injEq] at e2
      obtain ⟨rfl, rfl, -⟩ := e2
      refine .inr ⟨_, _, rfl, hlt, fun i hi => ?_⟩
      have := hcell (cut + i) (by omega)
      rw [Nat.zero_add] at this
      rw [this]; simp

theorem bcell {W w1 : World} (hb : Below W.heap.size W w1) : (∀ b o, b < W.heap.size → w1.cell? ⟨b, o, none⟩ = W.cell? ⟨b, o, none⟩) ∧ (∀ b o, b < W.heap.size → w1.frozen? ⟨b, o, none⟩ = W.frozen? ⟨b, o, none⟩) :=
  ⟨fun b o h => hb.cell (p := ⟨b, o, none⟩) h, fun b o h => hb.frozen (p := ⟨b, o, none⟩) h⟩

/-- The same where the block was laid ahead of the call (Go leaves the order open). -/
theorem ser_set {v u w : World} {g n : Nat} {nm : ByteArray} {ns vs : List ByteArray} {c0 c1 : Value} (hu : u = v.alloc (.cells #[c0, c1] 27)) (hL : Laid w g n ns vs n) (hb : Below u.heap.size u w) (hg : g ≠ v.heap.size) :
    Ser ((w.setCell ⟨v.heap.size, 0, none⟩ (.string nm)).setCell ⟨v.heap.size, 1, none⟩ (.slice (some ⟨g, 0, none⟩) n n)) v.heap.size nm g n ns vs ∧
      Below v.heap.size v ((w.setCell ⟨v.heap.size, 0, none⟩ (.string nm)).setCell ⟨v.heap.size, 1, none⟩ (.slice (some ⟨g, 0, none⟩) n n)) := by
  have hus : u.heap.size = v.heap.size + 1 := by rw [hu]; simp
  have hws := hb.size
  have k0 : w.cell? ⟨v.heap.size, 0, none⟩ = some c0 := (hb.cell (by show v.heap.size < _; omega)).trans (by rw [hu]; simp)
  have k1 : w.cell? ⟨v.heap.size, 1, none⟩ = some c1 := (hb.cell (by show v.heap.size < _; omega)).trans (by rw [hu]; simp)
  have hvw : Below v.heap.size v w := (show Below v.heap.size v u by rw [hu]; exact (Below.refl _ _).alloc (Nat.le_refl _) _).trans (hb.mono (by omega))
  refine ⟨⟨?_, ?_, ?_, ((hL.other hg _).other hg _).labels⟩, (hvw.setCell (Nat.le_refl _) _).setCell (Nat.le_refl _) _⟩
  · simp [World.setCell]; omega
  · simp [go_sem, k0]
  · simp [go_sem, k1]

theorem allOk_split (ns vs ms us : List ByteArray) (n c : Nat) : ∀ k, allOk ns vs ms us n (c + k) = (allOk ns vs ms us n c && allOk ns vs (ms.drop c) (us.drop c) n k)
  | 0 => by rw [Nat.add_zero, allOk, Bool.and_true]
  | k + 1 => by
    rw [← Nat.add_assoc, allOk, allOk_split ns vs ms us n c k, allOk, Bool.and_assoc]
    simp

theorem incl_split (nm : ByteArray) (n : Nat) (ns vs : List ByteArray) (nx : ByteArray) (m c : Nat) (ms us : List ByteArray) (h : c ≤ m) :
    inclB nm n ns vs nx m ms us = (inclB nm n ns vs nx c ms us && inclB nm n ns vs nx (m - c) (ms.drop c) (us.drop c)) := by
  have e := allOk_split ns vs ms us n c (m - c)
  rw [show c + (m - c) = m by omega] at e
  unfold inclB
  rw [e]
  cases (nm.toList == nx.toList) <;> simp

theorem incl_bare (nm : ByteArray) (n : Nat) (ns vs : List ByteArray) : inclB nm n ns vs nm 0 [] [] = true := by
  unfold inclB allOk; simp

theorem zzIncl_is (nm nx : ByteArray) (g n h m : Nat) (ns vs ms us : List ByteArray) (B : Bool) (hB : Hid (B = inclB nm n ns vs nx m ms us)) (w : World) (hn : n ≤ 1048576) (hm : m ≤ 1048576) (L1 : Labels w g n ns vs) (L2 : Labels w h m ms us) :
    Calls Try.prog 7 #[.agg #[.string nm, .slice (some ⟨g, 0, none⟩) n n], .agg #[.string nx, .slice (some ⟨h, 0, none⟩) m m]] w fun e w' => e = .returned (.bool B) ∧ Below w.heap.size w w' := by
  rw [hB.out]; exact zzIncl_any nm nx g n h m ns vs ms us w hn hm L1 L2

set_option maxRecDepth 100000 in
set_option maxHeartbeats 4000000 in
theorem law_main (nm nx : ByteArray) (a1 a2 a4 a5 : Option Addr) (n m c1 c2 c4 c5 : Nat) (ss1 ss2 ss4 ss5 : List ByteArray) (cut : Nat) (w : World)
    (hnm : nm.size ≤ 1048576) (hnx : nx.size ≤ 1048576) (hn : n ≤ 256) (hm : m ≤ 256) (hcut : cut ≤ m)
    (S1 : Strs w a1 n ss1) (S2 : Strs w a2 n ss2) (S4 : Strs w a4 m ss4) (S5 : Strs w a5 m ss5)
    (z1 : a1 = none → c1 = 0) (z2 : a2 = none → c2 = 0) (z4 : a4 = none → c4 = 0) (z5 : a5 = none → c5 = 0) :
    Calls Try.prog 3 #[.string nm, .slice a1 n c1, .slice a2 n c2, .string nx, .slice a4 m c4, .slice a5 m c5, .int .i64 cut] w fun e w' => e = .returned (.bool true) ∧ Below w.heap.size w w' := by
  have Z : Hid ((a1 = none → c1 = 0) ∧ (a2 = none → c2 = 0) ∧ (a4 = none → c4 = 0) ∧ (a5 = none → c5 = 0)) := ⟨z1, z2, z4, z5⟩
  clear z1 z2 z4 z5
  have hq1 := fun w => run_neq_slice_nil_any (P := Try.prog) w 22 9 a1 n c1 0 0 Try.underlying22
  have hq2 := fun w => run_neq_slice_nil_any (P := Try.prog) w 22 9 a2 n c2 0 0 Try.underlying22
  have hq4 := fun w => run_neq_slice_nil_any (P := Try.prog) w 22 9 a4 m c4 0 0 Try.underlying22
  have hq5 := fun w => run_neq_slice_nil_any (P := Try.prog) w 22 9 a5 m c5 0 0 Try.underlying22
  have hmk1 := run_make_strs n (by omega)
  have hmk2 := run_make_strs m (by omega)
  go_enter Try.func3, Try.ntmps3
  go_wp2_with fail
  refine (bytes_any nm nx a1 a2 a4 a5 n n m m c1 c2 c4 c5 ss1 ss2 ss4 ss5 _ w S1 S2 S4 S5).mono ?_
  rintro e w' ⟨⟨b, rfl⟩, rfl⟩
  cases b with
  | false =>
    go_wp2
    go_ret
    exact ⟨rfl, Below.refl _ _⟩
  | true =>
    go_wp2_with fail
    refine (within_any _ _ _ _ _ _ (by omega) S1).mono ?_
    rintro e w' ⟨⟨b, rfl⟩, rfl⟩
    cases b with
    | false =>
      go_wp2
      go_ret
      exact ⟨rfl, Below.refl _ _⟩
    | true =>
    go_wp2_with fail
    refine (within_any _ _ _ _ _ _ (by omega) S2).mono ?_
    rintro e w' ⟨⟨b, rfl⟩, rfl⟩
    cases b with
    | false =>
      go_wp2
      go_ret
      exact ⟨rfl, Below.refl _ _⟩
    | true =>
    go_wp2_with fail
    refine (within_any _ _ _ _ _ _ (by omega) S4).mono ?_
    rintro e w' ⟨⟨b, rfl⟩, rfl⟩
    cases b with
    | false =>
      go_wp2
      go_ret
      exact ⟨rfl, Below.refl _ _⟩
    | true =>
    go_wp2_with fail
    refine (within_any _ _ _ _ _ _ (by omega) S5).mono ?_
    rintro e w' ⟨⟨b, rfl⟩, rfl⟩
    cases b with
    | false =>
      go_wp2
      go_ret
      exact ⟨rfl, Below.refl _ _⟩
    | true =>
    go_upto_if 102 with fail
    go_cut [1] from 28 to 109 (fun s wx => ∃ a, s = .slice a n n ∧ Own a n ∧ Strs wx a n ss1 ∧ Below w.heap.size w wx)
    case first =>
      cases a1 with
      | none =>
        have ec : Hid (c1 = n) := by show _ = _; rw [S1.nil, Z.out.1 rfl]
        go_wp2
        go_meet
        case rel => exact ⟨none, by rw [ec.out], .inl ⟨rfl, S1.nil⟩, S1, Below.refl _ _⟩
      | some x =>
        obtain ⟨wz, hcp, HS, hb⟩ := run_copy_strs w n c1 x ss1 (S1)
        go_wp2
        go_meet
        case rel => exact ⟨_, rfl, .inr ⟨_, rfl⟩, HS, hb⟩
    case rest =>
      rename World => w1
      obtain ⟨b1, rfl, O1, T1, hb1⟩ := hcut
      have B1 : Below w.heap.size w w1 := hb1
      go_upto_if 111 with fail
      go_cut [2] from 110 to 118 (fun s wx => ∃ a, s = .slice a n n ∧ Own a n ∧ Strs wx a n ss2 ∧ Below w1.heap.size w1 wx)
      case first =>
        cases a2 with
        | none =>
          have ec : Hid (c2 = n) := by show _ = _; rw [S2.nil, Z.out.2.1 rfl]
          go_wp2
          go_meet
          case rel => exact ⟨none, by rw [ec.out], .inl ⟨rfl, S2.nil⟩, S2.below B1, Below.refl _ _⟩
        | some x =>
          obtain ⟨wz, hcp, HS, hb⟩ := run_copy_strs w1 n c2 x ss2 (S2.below B1)
          go_wp2
          go_meet
          case rel => exact ⟨_, rfl, .inr ⟨_, rfl⟩, HS, hb⟩
      case rest =>
        rename World => w2
        obtain ⟨b2, rfl, O2, T2, hb2⟩ := hcut
        have B2 : Below w.heap.size w w2 := below_next B1 hb2
        go_upto_if 120 with fail
        go_cut [4] from 119 to 127 (fun s wx => ∃ a, s = .slice a m m ∧ Own a m ∧ Strs wx a m ss4 ∧ Below w2.heap.size w2 wx)
        case first =>
          cases a4 with
          | none =>
            have ec : Hid (c4 = m) := by show _ = _; rw [S4.nil, Z.out.2.2.1 rfl]
            go_wp2
            go_meet
            case rel => exact ⟨none, by rw [ec.out], .inl ⟨rfl, S4.nil⟩, S4.below B2, Below.refl _ _⟩
          | some x =>
            obtain ⟨wz, hcp, HS, hb⟩ := run_copy_strs w2 m c4 x ss4 (S4.below B2)
            go_wp2
            go_meet
            case rel => exact ⟨_, rfl, .inr ⟨_, rfl⟩, HS, hb⟩
        case rest =>
          rename World => w3
          obtain ⟨b4, rfl, O3, T3, hb3⟩ := hcut
          have B3 : Below w.heap.size w w3 := below_next B2 hb3
          go_upto_if 129 with fail
          go_cut [5] from 128 to 136 (fun s wx => ∃ a, s = .slice a m m ∧ Own a m ∧ Strs wx a m ss5 ∧ Below w3.heap.size w3 wx)
          case first =>
            cases a5 with
            | none =>
              have ec : Hid (c5 = m) := by show _ = _; rw [S5.nil, Z.out.2.2.2 rfl]
              go_wp2
              go_meet
              case rel => exact ⟨none, by rw [ec.out], .inl ⟨rfl, S5.nil⟩, S5.below B3, Below.refl _ _⟩
            | some x =>
              obtain ⟨wz, hcp, HS, hb⟩ := run_copy_strs w3 m c5 x ss5 (S5.below B3)
              go_wp2
              go_meet
              case rel => exact ⟨_, rfl, .inr ⟨_, rfl⟩, HS, hb⟩
          case rest =>
            rename World => w4
            obtain ⟨b5, rfl, O4, T4, hb4⟩ := hcut
            have B4 : Below w.heap.size w w4 := below_next B3 hb4
            have U1 := ((T1.below hb2).below hb3).below hb4
            have U2 := (T2.below hb3).below hb4
            have U4 := T3.below hb4
            have U5 := T4
            clear T1 T2 T3 T4
            clear S1 S2 S4 S5 hb1 hb2 hb3 hb4 B1 B2 B3 hq1 hq2 hq4 hq5 hmk1 hmk2 Z
            go_upto_region 29 with fail
            go_cut [19] from 137 to 140 (fun s wx => ∃ blk g, s = .pointer (some ⟨blk, 0, none⟩) ∧ Ser wx blk nm g n ss1 ss2 ∧ Below w4.heap.size w4 wx)
            case first =>
              go_wp2_with fail
              refine (series_any nm _ _ n _ _ ss1 ss2 _ (by omega) U1 U2).mono ?_
              rintro e w5 ⟨rfl, HL, hb5⟩
              go_wp2
              go_meet
              case rel =>
                have R := ser_new (nm := nm) HL hb5
                exact ⟨_, _, rfl, R.1, R.2⟩
            case rest =>
              rename World => v1
              obtain ⟨k1, g1, rfl, R1, hv1⟩ := hcut
              have A1 : Below w.heap.size w v1 := below_next B4 hv1
              have V4 := U4.below hv1
              have V5 := U5.below hv1
              clear U1 U2 U4 U5 B4 hv1
              go_upto_region 30 with fail
              go_cut [20] from 141 to 144 (fun s wx => ∃ blk g, s = .pointer (some ⟨blk, 0, none⟩) ∧ Ser wx blk nx g m ss4 ss5 ∧ Below v1.heap.size v1 wx)
              case first =>
                go_wp2_with fail
                refine (series_any nx _ _ m _ _ ss4 ss5 _ (by omega) V4 V5).mono ?_
                rintro e w5 ⟨rfl, HL, hb5⟩
                go_wp2
                go_meet
                case rel =>
                  have R := ser_new (nm := nx) HL hb5
                  exact ⟨_, _, rfl, R.1, R.2⟩
              case rest =>
                rename World => v2
                obtain ⟨k2, g2, rfl, R2, hv2⟩ := hcut
                have A2 : Below w.heap.size w v2 := below_next A1 hv2
                have W4 := V4.below hv2
                have W5 := V5.below hv2
                have Q1 := R1.below hv2
                clear V4 V5 hv2 A1 R1
                go_upto_region 31 with fail
                go_cut [21] from 145 to 152 (fun s wx => ∃ blk g, s = .pointer (some ⟨blk, 0, none⟩) ∧ Ser wx blk nx g cut ss4 ss5 ∧ Below v2.heap.size v2 wx)
                case first =>
                  go_region_with (go_at_call 6; refine (series_any nx _ _ cut _ _ ss4 ss5 _ (by omega) ?_ ?_).mono ?_; (first | exact W4.cut cut (by omega) | exact (W4.below (((Below.refl _ _).alloc (Nat.le_refl _) _).drew)).cut cut (by omega)); (first | exact W5.cut cut (by omega) | exact (W5.below (((Below.refl _ _).alloc (Nat.le_refl _) _).drew)).cut cut (by omega)); rintro e w5 ⟨rfl, HL, hb5⟩; obtain ⟨hc5, hf5⟩ := bcell hb5)
                  all_goals (go_wp2_with fail; go_meet)
                  case rel =>
                    first
                      | exact (fun R => ⟨_, _, rfl, R.1, R.2⟩) (ser_new (w0 := v2) (nm := nx) HL (((Below.refl _ v2).drew).trans hb5))
                      | exact (fun R => ⟨_, _, rfl, R.1, R.2⟩) (ser_set (v := v2) (nm := nx) rfl (by simpa using HL) (((Below.refl _ (v2.alloc _)).drew).trans hb5) (by omega))
                  case rel =>
                    first
                      | exact (fun R => ⟨_, _, rfl, R.1, R.2⟩) (ser_new (w0 := v2) (nm := nx) HL (((Below.refl _ v2).drew).trans hb5))
                      | exact (fun R => ⟨_, _, rfl, R.1, R.2⟩) (ser_set (v := v2) (nm := nx) rfl (by simpa using HL) (((Below.refl _ (v2.alloc _)).drew).trans hb5) (by omega))
                case rest =>
                  rename World => v3
                  obtain ⟨k3, g3, rfl, R3, hv3⟩ := hcut
                  have A3 : Below w.heap.size w v3 := below_next A2 hv3
                  have X4 := W4.below hv3
                  have X5 := W5.below hv3
                  have P1 := Q1.below hv3
                  have P2 := R2.below hv3
                  clear W4 W5 hv3 A2 Q1 R2
                  go_upto_region 32 with fail
                  obtain ⟨d, hd⟩ : ∃ d, d = m - cut := ⟨_, rfl⟩
                  have D : Hid (d = m - cut) := hd
                  clear hd
                  go_cut [22] from 153 to 160 (fun s wx => ∃ blk g, s = .pointer (some ⟨blk, 0, none⟩) ∧ Ser wx blk nx g d (ss4.drop cut) (ss5.drop cut) ∧ Below v3.heap.size v3 wx)
                  case first =>
                    rcases O3 with ⟨rfl, hm0⟩ | ⟨p4, rfl⟩
                    · subst hm0
                      obtain rfl : cut = 0 := by omega
                      obtain rfl : d = 0 := by have := D.out; omega
                      rcases O4 with ⟨rfl, _⟩ | ⟨p5, rfl⟩
                      · go_region_with (go_at_call 6; go_must (refine (series_any nx _ _ 0 _ _ (ss4.drop 0) (ss5.drop 0) _ (by omega) ⟨Nat.zero_le _, .inl rfl⟩ ⟨Nat.zero_le _, .inl rfl⟩).mono ?_); rintro e w5 ⟨rfl, HL, hb5⟩; obtain ⟨hc5, hf5⟩ := bcell hb5)
                        all_goals (go_wp2_with fail; go_meet)
                        case rel =>
                          first
                            | exact (fun R => ⟨_, _, rfl, R.1, R.2⟩) (ser_new (w0 := v3) (nm := nx) HL (((Below.refl _ v3).drew).trans hb5))
                            | exact (fun R => ⟨_, _, rfl, R.1, R.2⟩) (ser_set (v := v3) (nm := nx) rfl (by simpa using HL) (((Below.refl _ (v3.alloc _)).drew).trans hb5) (by omega))
                        case rel =>
                          first
                            | exact (fun R => ⟨_, _, rfl, R.1, R.2⟩) (ser_new (w0 := v3) (nm := nx) HL (((Below.refl _ v3).drew).trans hb5))
                            | exact (fun R => ⟨_, _, rfl, R.1, R.2⟩) (ser_set (v := v3) (nm := nx) rfl (by simpa using HL) (((Below.refl _ (v3.alloc _)).drew).trans hb5) (by omega))
                      · go_region_with (go_at_call 6; go_must (refine (series_any nx _ _ 0 _ _ (ss4.drop 0) (ss5.drop 0) _ (by omega) ⟨Nat.zero_le _, .inl rfl⟩ ⟨Nat.zero_le _, .inl rfl⟩).mono ?_); rintro e w5 ⟨rfl, HL, hb5⟩; obtain ⟨hc5, hf5⟩ := bcell hb5)
                        all_goals (go_wp2_with fail; go_meet)
                        case rel =>
                          first
                            | exact (fun R => ⟨_, _, rfl, R.1, R.2⟩) (ser_new (w0 := v3) (nm := nx) HL (((Below.refl _ v3).drew).trans hb5))
                            | exact (fun R => ⟨_, _, rfl, R.1, R.2⟩) (ser_set (v := v3) (nm := nx) rfl (by simpa using HL) (((Below.refl _ (v3.alloc _)).drew).trans hb5) (by omega))
                        case rel =>
                          first
                            | exact (fun R => ⟨_, _, rfl, R.1, R.2⟩) (ser_new (w0 := v3) (nm := nx) HL (((Below.refl _ v3).drew).trans hb5))
                            | exact (fun R => ⟨_, _, rfl, R.1, R.2⟩) (ser_set (v := v3) (nm := nx) rfl (by simpa using HL) (((Below.refl _ (v3.alloc _)).drew).trans hb5) (by omega))
                    · rcases O4 with ⟨rfl, hm0⟩ | ⟨p5, rfl⟩
                      · subst hm0
                        obtain rfl : cut = 0 := by omega
                        obtain rfl : d = 0 := by have := D.out; omega
                        go_region_with (go_at_call 6; go_must (refine (series_any nx _ _ 0 _ _ (ss4.drop 0) (ss5.drop 0) _ (by omega) ⟨Nat.zero_le _, .inl rfl⟩ ⟨Nat.zero_le _, .inl rfl⟩).mono ?_); rintro e w5 ⟨rfl, HL, hb5⟩; obtain ⟨hc5, hf5⟩ := bcell hb5)
                        all_goals (go_wp2_with fail; go_meet)
                        case rel =>
                          first
                            | exact (fun R => ⟨_, _, rfl, R.1, R.2⟩) (ser_new (w0 := v3) (nm := nx) HL (((Below.refl _ v3).drew).trans hb5))
                            | exact (fun R => ⟨_, _, rfl, R.1, R.2⟩) (ser_set (v := v3) (nm := nx) rfl (by simpa using HL) (((Below.refl _ (v3.alloc _)).drew).trans hb5) (by omega))
                        case rel =>
                          first
                            | exact (fun R => ⟨_, _, rfl, R.1, R.2⟩) (ser_new (w0 := v3) (nm := nx) HL (((Below.refl _ v3).drew).trans hb5))
                            | exact (fun R => ⟨_, _, rfl, R.1, R.2⟩) (ser_set (v := v3) (nm := nx) rfl (by simpa using HL) (((Below.refl _ (v3.alloc _)).drew).trans hb5) (by omega))
                      · by_cases hmc : m = cut
                        · subst hmc
                          obtain rfl : d = 0 := by have := D.out; omega
                          go_region_with (go_at_call 6; go_must (refine (series_any nx _ _ 0 _ _ (ss4.drop m) (ss5.drop m) _ (by omega) ⟨Nat.zero_le _, .inl rfl⟩ ⟨Nat.zero_le _, .inl rfl⟩).mono ?_); rintro e w5 ⟨rfl, HL, hb5⟩; obtain ⟨hc5, hf5⟩ := bcell hb5)
                          all_goals (go_wp2_with fail; go_meet)
                          case rel =>
                            first
                              | exact (fun R => ⟨_, _, rfl, R.1, R.2⟩) (ser_new (w0 := v3) (nm := nx) HL (((Below.refl _ v3).drew).trans hb5))
                              | exact (fun R => ⟨_, _, rfl, R.1, R.2⟩) (ser_set (v := v3) (nm := nx) rfl (by simpa using HL) (((Below.refl _ (v3.alloc _)).drew).trans hb5) (by omega))
                          case rel =>
                            first
                              | exact (fun R => ⟨_, _, rfl, R.1, R.2⟩) (ser_new (w0 := v3) (nm := nx) HL (((Below.refl _ v3).drew).trans hb5))
                              | exact (fun R => ⟨_, _, rfl, R.1, R.2⟩) (ser_set (v := v3) (nm := nx) rfl (by simpa using HL) (((Below.refl _ (v3.alloc _)).drew).trans hb5) (by omega))
                        · have Y4 : Strs v3 (some ⟨p4, cut, none⟩) (m - cut) (ss4.drop cut) := by simpa only [if_neg hmc] using X4.tail hcut
                          have Y5 : Strs v3 (some ⟨p5, cut, none⟩) (m - cut) (ss5.drop cut) := by simpa only [if_neg hmc] using X5.tail hcut
                          go_region_with (go_at_call 6; refine (series_any nx _ _ (m - cut) _ _ (ss4.drop cut) (ss5.drop cut) _ (by omega) ?_ ?_).mono ?_; (first | exact Y4 | exact Y4.below (((Below.refl _ _).alloc (Nat.le_refl _) _).drew)); (first | exact Y5 | exact Y5.below (((Below.refl _ _).alloc (Nat.le_refl _) _).drew)); rintro e w5 ⟨rfl, HL, hb5⟩; obtain ⟨hc5, hf5⟩ := bcell hb5)
                          all_goals (go_wp2_with fail; go_meet)
                          case rel =>
                            first
                              | exact (fun R => ⟨_, _, rfl, by rw [D.out]; exact R.1, R.2⟩) (ser_new (w0 := v3) (nm := nx) HL (((Below.refl _ v3).drew).trans hb5))
                              | exact (fun R => ⟨_, _, rfl, by rw [D.out]; exact R.1, R.2⟩) (ser_set (v := v3) (nm := nx) rfl (by simpa using HL) (((Below.refl _ (v3.alloc _)).drew).trans hb5) (by omega))
                          case rel =>
                            first
                              | exact (fun R => ⟨_, _, rfl, by rw [D.out]; exact R.1, R.2⟩) (ser_new (w0 := v3) (nm := nx) HL (((Below.refl _ v3).drew).trans hb5))
                              | exact (fun R => ⟨_, _, rfl, by rw [D.out]; exact R.1, R.2⟩) (ser_set (v := v3) (nm := nx) rfl (by simpa using HL) (((Below.refl _ (v3.alloc _)).drew).trans hb5) (by omega))
                  case rest =>
                    rename World => v4
                    obtain ⟨k4, g4, rfl, R4, hv4⟩ := hcut
                    have A4 : Below w.heap.size w v4 := below_next A3 hv4
                    have P1' := P1.below hv4
                    have P2' := P2.below hv4
                    have P3' := R3.below hv4
                    clear X4 X5 P1 P2 R3 hv4 A3
                    go_upto_region 33 with fail
                    go_cut [23] from 161 to 162 (fun s wx => ∃ blk g, s = .pointer (some ⟨blk, 0, none⟩) ∧ Ser wx blk nm g 0 [] [] ∧ Below v4.heap.size v4 wx)
                    case first =>
                      go_wp2_with fail
                      refine (series_any nm _ _ 0 _ _ [] [] _ (by omega) ⟨Nat.zero_le _, .inl rfl⟩ ⟨Nat.zero_le _, .inl rfl⟩).mono ?_
                      rintro e w5 ⟨rfl, HL, hb5⟩
                      go_wp2
                      go_meet
                      case rel =>
                        have R := ser_new (nm := nm) HL hb5
                        exact ⟨_, _, rfl, R.1, R.2⟩
                    case rest =>
                      rename World => v5
                      obtain ⟨k5, g5, rfl, R5, hv5⟩ := hcut
                      have A5 : Below w.heap.size w v5 := below_next A4 hv5
                      have Z1 := P1'.below hv5
                      have Z2 := P2'.below hv5
                      have Z3 := P3'.below hv5
                      have Z4 := R4.below hv5
                      clear P1' P2' P3' R4 hv5 A4
                      obtain ⟨t1, y1, x1, L1⟩ := Z1
                      obtain ⟨t2, y2, x2, L2⟩ := Z2
                      obtain ⟨t3, y3, x3, L3⟩ := Z3
                      obtain ⟨t4, y4, x4, L4⟩ := Z4
                      obtain ⟨t5, y5, x5, L5⟩ := R5
                      obtain ⟨pa, hpa⟩ : ∃ b, b = inclB nm n ss1 ss2 nx cut ss4 ss5 := ⟨_, rfl⟩
                      obtain ⟨pb, hpb⟩ : ∃ b, b = inclB nm n ss1 ss2 nx d (ss4.drop cut) (ss5.drop cut) := ⟨_, rfl⟩
                      have E1 : Hid ((pa && pb) = inclB nm n ss1 ss2 nx m ss4 ss5) := by show _ = _; rw [hpa, hpb, D.out]; exact (incl_split nm n ss1 ss2 nx m cut ss4 ss5 hcut).symm
                      have E2 : Hid (pa = inclB nm n ss1 ss2 nx cut ss4 ss5) := hpa
                      have E3 : Hid (pb = inclB nm n ss1 ss2 nx d (ss4.drop cut) (ss5.drop cut)) := hpb
                      have E4 : Hid (true = inclB nm n ss1 ss2 nm 0 [] []) := (incl_bare nm n ss1 ss2).symm
                      have hdm : d ≤ 1048576 := by have := D.out; omega
                      clear hpa hpb D
                      cases pa <;> cases pb
                      all_goals
                        go_wp2_with fail
                        refine (zzIncl_is nm nx g1 n g2 m ss1 ss2 ss4 ss5 _ E1 _ (by omega) (by omega) L1 L2).mono ?_
                        rintro e v6 ⟨rfl, h6⟩
                        have y1_v6 := (h6.cell (by exact t1)).trans y1
                        have x1_v6 := (h6.cell (by exact t1)).trans x1
                        have L1_v6 := L1.below h6
                        have t1_v6 := Nat.lt_of_lt_of_le t1 h6.size
                        have y3_v6 := (h6.cell (by exact t3)).trans y3
                        have x3_v6 := (h6.cell (by exact t3)).trans x3
                        have L3_v6 := L3.below h6
                        have t3_v6 := Nat.lt_of_lt_of_le t3 h6.size
                        have y4_v6 := (h6.cell (by exact t4)).trans y4
                        have x4_v6 := (h6.cell (by exact t4)).trans x4
                        have L4_v6 := L4.below h6
                        have t4_v6 := Nat.lt_of_lt_of_le t4 h6.size
                        have y5_v6 := (h6.cell (by exact t5)).trans y5
                        have x5_v6 := (h6.cell (by exact t5)).trans x5
                        have L5_v6 := L5.below h6
                        have t5_v6 := Nat.lt_of_lt_of_le t5 h6.size
                        clear y1 x1 L1 t1 y3 x3 L3 t3 y4 x4 L4 t4 y5 x5 L5 t5
                        go_wp2_with fail
                        refine (zzIncl_is nm nx g1 n g3 cut ss1 ss2 ss4 ss5 _ E2 _ (by omega) (by omega) L1_v6 L3_v6).mono ?_
                        rintro e v7 ⟨rfl, h7⟩
                        have y1_v7 := (h7.cell (by exact t1_v6)).trans y1_v6
                        have x1_v7 := (h7.cell (by exact t1_v6)).trans x1_v6
                        have L1_v7 := L1_v6.below h7
                        have t1_v7 := Nat.lt_of_lt_of_le t1_v6 h7.size
                        have y4_v7 := (h7.cell (by exact t4_v6)).trans y4_v6
                        have x4_v7 := (h7.cell (by exact t4_v6)).trans x4_v6
                        have L4_v7 := L4_v6.below h7
                        have t4_v7 := Nat.lt_of_lt_of_le t4_v6 h7.size
                        have y5_v7 := (h7.cell (by exact t5_v6)).trans y5_v6
                        have x5_v7 := (h7.cell (by exact t5_v6)).trans x5_v6
                        have L5_v7 := L5_v6.below h7
                        have t5_v7 := Nat.lt_of_lt_of_le t5_v6 h7.size
                        clear y1_v6 x1_v6 L1_v6 t1_v6 y4_v6 x4_v6 L4_v6 t4_v6 y5_v6 x5_v6 L5_v6 t5_v6
                        go_wp2_with fail
                        refine (zzIncl_is nm nx g1 n g4 d ss1 ss2 (ss4.drop cut) (ss5.drop cut) _ E3 _ (by omega) hdm L1_v7 L4_v7).mono ?_
                        rintro e v8 ⟨rfl, h8⟩
                        have y1_v8 := (h8.cell (by exact t1_v7)).trans y1_v7
                        have x1_v8 := (h8.cell (by exact t1_v7)).trans x1_v7
                        have L1_v8 := L1_v7.below h8
                        have t1_v8 := Nat.lt_of_lt_of_le t1_v7 h8.size
                        have y5_v8 := (h8.cell (by exact t5_v7)).trans y5_v7
                        have x5_v8 := (h8.cell (by exact t5_v7)).trans x5_v7
                        have L5_v8 := L5_v7.below h8
                        have t5_v8 := Nat.lt_of_lt_of_le t5_v7 h8.size
                        clear y1_v7 x1_v7 L1_v7 t1_v7 y5_v7 x5_v7 L5_v7 t5_v7
                        go_wp2_with fail
                        refine (zzIncl_is nm nm g1 n g5 0 ss1 ss2 [] [] _ E4 _ (by omega) (by omega) L1_v8 L5_v8).mono ?_
                        rintro e v9 ⟨rfl, h9⟩
                        go_wp2
                        go_ret
                        exact ⟨rfl, below_next (below_next (below_next (below_next A5 h6) h7) h8) h9⟩
end Go.Proofs.Qxb6623276a
