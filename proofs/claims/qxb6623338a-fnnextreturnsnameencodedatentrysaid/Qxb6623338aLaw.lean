/-
  The walk of FnNextReturnsNameEncodedAtEntry.
-/
import Derived.Test.Qxb6623338aNext
import Derived.Test.Qxb6623338aGuard
namespace Go.Proofs.Qxb6623338a
open Go.RowKit

/-- What the second loop has seen after k bytes: d: has it met the last byte? -/
def Seen (len : Nat) (L : Nat → Nat) (Z : Nat → Nat → Int) (entry : Nat) (c : Nat → Int) (k : Nat) (d : Bool) (last : Int) : Prop :=
  (∀ i, i < k → Has len L Z (entry + i) (c i)) ∧ (d = false → ∀ i, i < k → 128 ≤ c i) ∧ (d = true → 0 < k ∧ c (k - 1) < 128 ∧ last = c (k - 1) ∧ ∀ i, i + 1 < k → 128 ≤ c i)

theorem Seen.start (len : Nat) (L : Nat → Nat) (Z : Nat → Nat → Int) (entry : Nat) (c : Nat → Int) : Seen len L Z entry c 0 false 0 :=
  ⟨fun i hi => absurd hi (Nat.not_lt_zero _), fun _ i hi => absurd hi (Nat.not_lt_zero _), fun h => by simp at h⟩

theorem Seen.more {len : Nat} {L : Nat → Nat} {Z : Nat → Nat → Int} {entry : Nat} {c : Nat → Int} {k : Nat} {last : Int} (h : Seen len L Z entry c k false last) (hh : Has len L Z (entry + k) (c k)) (hge : 128 ≤ c k) :
    Seen len L Z entry c (k + 1) false (c k) := by
  refine ⟨fun i hi => ?_, fun _ i hi => ?_, fun h => by simp at h⟩
  · by_cases e : i = k
    · subst e; exact hh
    · exact h.1 i (by omega)
  · by_cases e : i = k
    · subst e; exact hge
    · exact h.2.1 rfl i (by omega)

theorem Seen.last {len : Nat} {L : Nat → Nat} {Z : Nat → Nat → Int} {entry : Nat} {c : Nat → Int} {k : Nat} {last : Int} (h : Seen len L Z entry c k false last) (hh : Has len L Z (entry + k) (c k)) (hlt : c k < 128) :
    Seen len L Z entry c (k + 1) true (c k) := by
  refine ⟨fun i hi => ?_, fun h => by simp at h, fun _ => ⟨by omega, hlt, rfl, fun i hi => h.2.1 rfl i (by omega)⟩⟩
  by_cases e : i = k
  · subst e; exact hh
  · exact h.1 i (by omega)

set_option maxRecDepth 100000 in
set_option maxHeartbeats 4000000 in
theorem law_any (a : Option Addr) (len cap : Nat) (A : Nat → Option Addr) (L C : Nat → Nat) (Z : Nat → Nat → Int) (n at_ en left entry : Int) (w : World) (hP : Pages w a len A L C Z) (hL : ∀ r, L r ≤ 9223372036854775807) (hZ : ∀ r i, 0 ≤ Z r i ∧ Z r i ≤ 255) (hen : entry ≤ 9223372036854775807) :
    Calls Try.prog 3 #[.slice a len cap, .int .i64 n, .int .i64 at_, .int .i64 en, .int .i64 left, .int .i64 entry] w fun e w' => e = .returned (.bool true) ∧ Below w.heap.size w w' := by
  have HZ : Hid (∀ r i, 0 ≤ Z r i ∧ Z r i ≤ 255) := hZ
  have HL : Hid (∀ r, L r ≤ 9223372036854775807) := hL
  clear hZ hL
  go_enter Try.func3, Try.ntmps3
  go_wp2_with fail
  refine (bytes_any a len cap A L C Z n at_ en left entry w hP).mono ?_
  rintro e w' ⟨⟨b, rfl, hG⟩, rfl⟩
  cases b with
  | false =>
    go_wp2
    go_ret
    exact ⟨rfl, Below.refl _ _⟩
  | true =>
    obtain ⟨hlen, hshort⟩ := hG rfl
    have HS : Hid (∀ r, r < len → L r ≤ 1048576) := hshort
    clear hG hshort
    go_wp2
    go_loop [13, 14] (fun t i => ∃ k : Nat, k ≤ len ∧ i = .int .i64 k ∧ ∃ m : Int, t = .int .i64 m ∧ 8 * (k : Int) ≤ m ∧ m ≤ 1048576) (fun _ i => len - (intOf i).toNat)
    case atStart => exact ⟨0, Nat.zero_le _, rfl, 0, rfl, by omega, by omega⟩
    case round =>
      obtain ⟨k, hk, rfl, m, rfl, hm1, hm2⟩ := hrel
      by_cases hlt : k < len
      · obtain ⟨b, off, rfl, hb, hc, hR⟩ := hP.at k hlt
        obtain ⟨l, hl⟩ : ∃ l, l = L k := ⟨_, rfl⟩
        rw [← hl] at hc
        have hl2 : l ≤ 1048576 := by rw [hl]; exact HS.out k hlt
        clear hl hR
        by_cases hbig : 1048576 < m + (8 + (l : Int))
        · go_wp2
          go_ret
          exact ⟨rfl, Below.refl _ _⟩
        · go_wp2
          go_round
          case rel => exact ⟨k + 1, by omega, by go_num, _, rfl, by omega, by omega⟩
          case measure => simp [intOf]; omega
      · obtain rfl : k = len := by omega
        have hlen8 : 8 * (k : Int) ≤ 1048576 := by omega
        by_cases he : entry < 0
        · go_wp2
          go_ret
          exact ⟨rfl, Below.refl _ _⟩
        obtain ⟨e, rfl⟩ : ∃ e : Nat, entry = e := ⟨entry.toNat, by omega⟩
        clear he
        by_cases he2 : k ≤ e / 1024
        · go_wp2
          go_ret
          exact ⟨rfl, Below.refl _ _⟩
        obtain ⟨c, hc⟩ : ∃ c : Nat → Int, c = fun i => Z ((e + i) / 1024) ((e + i) % 1024) := ⟨_, rfl⟩
        have HC : Hid (c = fun i => Z ((e + i) / 1024) ((e + i) % 1024)) := hc
        clear hc HS hm1 hm2
        have hebound : e + 9 ≤ 1000000000 := by omega
        go_wp2
        go_loop [15, 16, 17] (fun i d l => ∃ j : Nat, j ≤ 9 ∧ i = .int .i64 j ∧ ∃ (db : Bool) (x : Int), d = .bool db ∧ l = .int .u8 x ∧ Seen k L Z e c j db x) (fun i _ _ => 9 - (intOf i).toNat)
        case atStart => exact ⟨0, by omega, rfl, false, 0, rfl, rfl, Seen.start _ _ _ _ _⟩
        case round =>
          obtain ⟨j, hj, rfl, db, x, rfl, rfl, hseen⟩ := hrel
          cases db with
          | false =>
            by_cases hj9 : j < 9
            · by_cases hn : n ≤ (e : Int) + j
              · go_wp2
                go_ret
                exact ⟨rfl, Below.refl _ _⟩
              by_cases hh : Hid (Has k L Z (e + j) (c j))
              · obtain ⟨y, hy⟩ : ∃ y, y = c j := ⟨_, rfl⟩
                have hh' : Has k L Z (e + j) y := by rw [hy]; exact hh.out
                have HY : Hid (y = c j) := hy
                have hy1 : 0 ≤ y ∧ y ≤ 255 := by rw [hy, HC.out]; exact HZ.out _ _
                obtain ⟨hy1, hy2⟩ := hy1
                clear hy
                by_cases hlt : y < 128
                · go_wp2_with (go_at_call 5; refine (byteAt_yes a k cap A L C Z _ y _ ?_ ?_ HL.out hP hh').mono ?_; omega; omega; rintro e w' ⟨rfl, rfl⟩)
                  go_round
                  case rel => exact ⟨j + 1, by omega, by go_num, true, y, rfl, rfl, by rw [HY.out]; exact hseen.last hh.out (by rw [← HY.out]; exact hlt)⟩
                  case measure => simp [intOf]; omega
                · go_wp2_with (go_at_call 5; refine (byteAt_yes a k cap A L C Z _ y _ ?_ ?_ HL.out hP hh').mono ?_; omega; omega; rintro e w' ⟨rfl, rfl⟩)
                  go_round
                  case rel => exact ⟨j + 1, by omega, by go_num, false, y, rfl, rfl, by rw [HY.out]; exact hseen.more hh.out (by rw [← HY.out]; omega)⟩
                  case measure => simp [intOf]; omega
              · have hno : Hid (∀ y, ¬ Has k L Z (e + j) y) := fun y hy => hh (by
                  obtain ⟨p1, p2, p3⟩ := hy
                  exact ⟨p1, p2, by rw [HC.out]⟩)
                go_wp2_with (go_at_call 5; refine (byteAt_no a k cap A L C Z _ _ ?_ ?_ HL.out hP hno.out).mono ?_; omega; omega; rintro e w' ⟨rfl, rfl⟩)
                go_ret
                exact ⟨rfl, Below.refl _ _⟩
            · go_wp2
              go_ret
              exact ⟨rfl, Below.refl _ _⟩
          | true =>
            obtain ⟨s1, -, s3⟩ := hseen
            obtain ⟨hj0, hx1, hx2, hx3⟩ := s3 rfl
            have G1 : Hid (∀ i, i < j → Has k L Z (e + i) (c i)) := s1
            have G2 : Hid ((∀ i, i + 1 < j → 128 ≤ c i) ∧ c (j - 1) < 128 ∧ x = c (j - 1)) := ⟨hx3, hx1, hx2⟩
            have hxr : 0 ≤ x ∧ x ≤ 255 := by rw [hx2, HC.out]; exact HZ.out _ _
            clear s1 s3 hx1 hx2 hx3
            have HR : Hid (∀ i, 0 ≤ c i ∧ c i ≤ 255) := fun i => by rw [HC.out]; exact HZ.out _ _
            obtain ⟨v, hv⟩ : ∃ v, v = val c j := ⟨_, rfl⟩
            have EV : Hid (v = val c j) := hv
            have hv0 : 0 ≤ v := by rw [hv]; exact val_nonneg c j
            have hv1 : v < 9223372036854775808 := by rw [hv]; exact val_lt63 c j hj
            have hwb := wrap_back at_ v hv0 hv1
            clear hv
            have hpos : Hid (1 < j → (x == 0) = false → ∀ i, i < j → j ≤ i + 1 → 0 < c i % 128) := fun _ hx0 i hi1 hi2 => by
              obtain ⟨_, g2, g3⟩ := G2.out
              obtain rfl : i = j - 1 := by omega
              have hne : x ≠ 0 := by simpa using hx0
              omega
            by_cases hj1 : 1 < j
            · cases hx0 : (x == 0) with
              | true =>
                go_wp2
                all_goals (go_ret; exact ⟨rfl, Below.refl _ _⟩)
              | false =>
                by_cases hj9 : j < 9
                · go_wp2_with fail
                  refine (zzNext_any n at_ en left a k cap A L C Z e j c v EV w hebound HL.out hj0 hj hP G1.out HR.out G2.out.1 G2.out.2.1).mono ?_
                  rintro e' w1 ⟨rfl, hb1⟩
                  have hP1 := hP.below hb1
                  go_wp2
                  rw [hwb]
                  clear hwb
                  go_loop [23, 24] (fun W t => ∃ tt mm : Nat, tt + mm = j ∧ 0 < mm ∧ t = .int .i64 tt ∧ W = .int .i64 (tl c tt mm)) (fun _ t => j - (intOf t).toNat)
                  case atStart => exact ⟨0, j, by omega, hj0, rfl, by rw [EV.out, val_is]⟩
                  case round =>
                    obtain ⟨tt, mm, htm, hmm, rfl, rfl⟩ := hrel
                    have hk1 : 0 ≤ tl c tt mm := tl_nonneg c mm tt
                    have hk2 : tl c tt mm < 9223372036854775808 := tl_lt63 c mm tt (by omega)
                    have hand := and127 (tl c tt mm) hk1 hk2
                    obtain ⟨y, hy⟩ : ∃ y, y = c tt := ⟨_, rfl⟩
                    have hhy : Has k L Z (e + tt) y := by rw [hy]; exact G1.out tt (by omega)
                    have hy1 : 0 ≤ y ∧ y ≤ 255 := by rw [hy]; exact HR.out tt
                    obtain ⟨hy1, hy2⟩ := hy1
                    by_cases hm1 : mm = 1
                    · subst hm1
                      rw [tl_one] at hand hk1 hk2 ⊢
                      have hyl : y < 128 := by
                        have : tt = j - 1 := by omega
                        rw [hy, this]; exact G2.out.2.1
                      obtain ⟨W, hW⟩ : ∃ W, W = c tt % 128 := ⟨_, rfl⟩
                      rw [← hW] at hand hk1 hk2 ⊢
                      have hw1 : W ≤ y := by omega
                      have hw2 : y ≤ W := by omega
                      have ht1 : tt + 1 ≤ j := by omega
                      have ht2 : j ≤ tt + 1 := by omega
                      clear hW hy htm
                      go_wp2_with (go_at_call 5; refine (byteAt_yes a k cap A L C Z _ y _ ?_ ?_ HL.out hP1 hhy).mono ?_; omega; omega; rintro e2 w' ⟨rfl, rfl⟩)
                      go_ret
                      refine ⟨?_, hb1⟩
                      first | rfl | (simp; done) | (simp; omega)
                    · obtain ⟨q, rfl⟩ : ∃ q, mm = q + 2 := ⟨mm - 2, by omega⟩
                      rw [tl_two] at hand hk1 hk2 ⊢
                      have hyl : 128 ≤ y := by rw [hy]; exact G2.out.1 tt (by omega)
                      obtain ⟨X, hX⟩ : ∃ X, X = tl c (tt + 1) (q + 1) := ⟨_, rfl⟩
                      have HX : Hid (X = tl c (tt + 1) (q + 1)) := hX
                      have hXp : 0 < X := by rw [hX]; exact tl_pos c q (tt + 1) (hpos.out (by omega) (by assumption) (tt + 1 + q) (by omega) (by omega))
                      rw [← hX] at hand hk1 hk2 ⊢
                      obtain ⟨W, hW⟩ : ∃ W, W = c tt % 128 + 128 * X := ⟨_, rfl⟩
                      rw [← hW] at hand hk1 hk2 ⊢
                      have hw1 : W ≤ y - 128 + 128 * X := by omega
                      have hw2 : y - 128 + 128 * X ≤ W := by omega
                      have hor : bits .or .u8 (W % 128) 128 = W % 128 + 128 := or128 _ (by omega) (by omega)
                      have ht1 : tt + 2 ≤ j := by omega
                      have HT : Hid (tt + (q + 2) = j) := htm
                      have hWX : Hid (W / 128 = X) := by show _ = _; omega
                      clear hW hX hy htm
                      go_wp2_with (go_at_call 5; refine (byteAt_yes a k cap A L C Z _ y _ ?_ ?_ HL.out hP1 hhy).mono ?_; omega; omega; rintro e2 w' ⟨rfl, rfl⟩)
                      go_round
                      case rel => exact ⟨tt + 1, q + 1, by have := HT.out; omega, by omega, by go_num, by rw [hWX.out, HX.out]⟩
                      case measure => simp [intOf]; omega
                · go_wp2_with fail
                  refine (zzNext_any n at_ en left a k cap A L C Z e j c v EV w hebound HL.out hj0 hj hP G1.out HR.out G2.out.1 G2.out.2.1).mono ?_
                  rintro e' w1 ⟨rfl, hb1⟩
                  have hP1 := hP.below hb1
                  go_wp2
                  rw [hwb]
                  clear hwb
                  go_loop [23, 24] (fun W t => ∃ tt mm : Nat, tt + mm = j ∧ 0 < mm ∧ t = .int .i64 tt ∧ W = .int .i64 (tl c tt mm)) (fun _ t => j - (intOf t).toNat)
                  case atStart => exact ⟨0, j, by omega, hj0, rfl, by rw [EV.out, val_is]⟩
                  case round =>
                    obtain ⟨tt, mm, htm, hmm, rfl, rfl⟩ := hrel
                    have hk1 : 0 ≤ tl c tt mm := tl_nonneg c mm tt
                    have hk2 : tl c tt mm < 9223372036854775808 := tl_lt63 c mm tt (by omega)
                    have hand := and127 (tl c tt mm) hk1 hk2
                    obtain ⟨y, hy⟩ : ∃ y, y = c tt := ⟨_, rfl⟩
                    have hhy : Has k L Z (e + tt) y := by rw [hy]; exact G1.out tt (by omega)
                    have hy1 : 0 ≤ y ∧ y ≤ 255 := by rw [hy]; exact HR.out tt
                    obtain ⟨hy1, hy2⟩ := hy1
                    by_cases hm1 : mm = 1
                    · subst hm1
                      rw [tl_one] at hand hk1 hk2 ⊢
                      have hyl : y < 128 := by
                        have : tt = j - 1 := by omega
                        rw [hy, this]; exact G2.out.2.1
                      obtain ⟨W, hW⟩ : ∃ W, W = c tt % 128 := ⟨_, rfl⟩
                      rw [← hW] at hand hk1 hk2 ⊢
                      have hw1 : W ≤ y := by omega
                      have hw2 : y ≤ W := by omega
                      have ht1 : tt + 1 ≤ j := by omega
                      have ht2 : j ≤ tt + 1 := by omega
                      clear hW hy htm
                      go_wp2_with (go_at_call 5; refine (byteAt_yes a k cap A L C Z _ y _ ?_ ?_ HL.out hP1 hhy).mono ?_; omega; omega; rintro e2 w' ⟨rfl, rfl⟩)
                      go_ret
                      refine ⟨?_, hb1⟩
                      first | rfl | (simp; done) | (simp; omega)
                    · obtain ⟨q, rfl⟩ : ∃ q, mm = q + 2 := ⟨mm - 2, by omega⟩
                      rw [tl_two] at hand hk1 hk2 ⊢
                      have hyl : 128 ≤ y := by rw [hy]; exact G2.out.1 tt (by omega)
                      obtain ⟨X, hX⟩ : ∃ X, X = tl c (tt + 1) (q + 1) := ⟨_, rfl⟩
                      have HX : Hid (X = tl c (tt + 1) (q + 1)) := hX
                      have hXp : 0 < X := by rw [hX]; exact tl_pos c q (tt + 1) (hpos.out (by omega) (by assumption) (tt + 1 + q) (by omega) (by omega))
                      rw [← hX] at hand hk1 hk2 ⊢
                      obtain ⟨W, hW⟩ : ∃ W, W = c tt % 128 + 128 * X := ⟨_, rfl⟩
                      rw [← hW] at hand hk1 hk2 ⊢
                      have hw1 : W ≤ y - 128 + 128 * X := by omega
                      have hw2 : y - 128 + 128 * X ≤ W := by omega
                      have hor : bits .or .u8 (W % 128) 128 = W % 128 + 128 := or128 _ (by omega) (by omega)
                      have ht1 : tt + 2 ≤ j := by omega
                      have HT : Hid (tt + (q + 2) = j) := htm
                      have hWX : Hid (W / 128 = X) := by show _ = _; omega
                      clear hW hX hy htm
                      go_wp2_with (go_at_call 5; refine (byteAt_yes a k cap A L C Z _ y _ ?_ ?_ HL.out hP1 hhy).mono ?_; omega; omega; rintro e2 w' ⟨rfl, rfl⟩)
                      go_round
                      case rel => exact ⟨tt + 1, q + 1, by have := HT.out; omega, by omega, by go_num, by rw [hWX.out, HX.out]⟩
                      case measure => simp [intOf]; omega
            · have hj9 : j < 9 := by omega
              go_wp2_with fail
              refine (zzNext_any n at_ en left a k cap A L C Z e j c v EV w hebound HL.out hj0 hj hP G1.out HR.out G2.out.1 G2.out.2.1).mono ?_
              rintro e' w1 ⟨rfl, hb1⟩
              have hP1 := hP.below hb1
              go_wp2
              rw [hwb]
              clear hwb
              go_loop [23, 24] (fun W t => ∃ tt mm : Nat, tt + mm = j ∧ 0 < mm ∧ t = .int .i64 tt ∧ W = .int .i64 (tl c tt mm)) (fun _ t => j - (intOf t).toNat)
              case atStart => exact ⟨0, j, by omega, hj0, rfl, by rw [EV.out, val_is]⟩
              case round =>
                obtain ⟨tt, mm, htm, hmm, rfl, rfl⟩ := hrel
                have hk1 : 0 ≤ tl c tt mm := tl_nonneg c mm tt
                have hk2 : tl c tt mm < 9223372036854775808 := tl_lt63 c mm tt (by omega)
                have hand := and127 (tl c tt mm) hk1 hk2
                obtain ⟨y, hy⟩ : ∃ y, y = c tt := ⟨_, rfl⟩
                have hhy : Has k L Z (e + tt) y := by rw [hy]; exact G1.out tt (by omega)
                have hy1 : 0 ≤ y ∧ y ≤ 255 := by rw [hy]; exact HR.out tt
                obtain ⟨hy1, hy2⟩ := hy1
                by_cases hm1 : mm = 1
                · subst hm1
                  rw [tl_one] at hand hk1 hk2 ⊢
                  have hyl : y < 128 := by
                    have : tt = j - 1 := by omega
                    rw [hy, this]; exact G2.out.2.1
                  obtain ⟨W, hW⟩ : ∃ W, W = c tt % 128 := ⟨_, rfl⟩
                  rw [← hW] at hand hk1 hk2 ⊢
                  have hw1 : W ≤ y := by omega
                  have hw2 : y ≤ W := by omega
                  have ht1 : tt + 1 ≤ j := by omega
                  have ht2 : j ≤ tt + 1 := by omega
                  clear hW hy htm
                  go_wp2_with (go_at_call 5; refine (byteAt_yes a k cap A L C Z _ y _ ?_ ?_ HL.out hP1 hhy).mono ?_; omega; omega; rintro e2 w' ⟨rfl, rfl⟩)
                  go_ret
                  refine ⟨?_, hb1⟩
                  first | rfl | (simp; done) | (simp; omega)
                · exact absurd hj1 (by omega)
end Go.Proofs.Qxb6623338a
