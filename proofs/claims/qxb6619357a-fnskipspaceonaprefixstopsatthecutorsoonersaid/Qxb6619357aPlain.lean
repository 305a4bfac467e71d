/-
  Plain lists, no Go: how long the run of elements is that pass a test, from a place on.
-/
namespace Go.Proofs.Qxb6619357a

def blankB (z : Int) : Bool := z == 32 || z == 9 || z == 10 || z == 13
def digitB (z : Int) : Bool := decide (48 ≤ z) && decide (z ≤ 57)

/-- How many elements pass the test p, from place k on, till the first that does not. -/
def runLen (p : Int → Bool) (zs : List Int) (k : Nat) : Nat := ((zs.drop k).takeWhile p).length

theorem runLen_le (p : Int → Bool) (zs : List Int) (k : Nat) (hk : k ≤ zs.length) : k + runLen p zs k ≤ zs.length := by
  have h := (List.takeWhile_sublist p (l := zs.drop k)).length_le
  simp at h
  unfold runLen; omega

theorem runLen_end (p : Int → Bool) (zs : List Int) (k : Nat) (hk : zs.length ≤ k) : runLen p zs k = 0 := by
  simp [runLen, List.drop_eq_nil_of_le hk]

theorem drop_at (zs : List Int) (k : Nat) (hk : k < zs.length) : zs.drop k = zs.getD k 0 :: zs.drop (k + 1) := by
  rw [List.drop_eq_getElem_cons hk, List.getD_eq_getElem?_getD, List.getElem?_eq_getElem hk]; rfl

theorem runLen_yes (p : Int → Bool) (zs : List Int) (k : Nat) (hk : k < zs.length) (h : p (zs.getD k 0) = true) : runLen p zs k = runLen p zs (k + 1) + 1 := by
  simp only [runLen, drop_at zs k hk, List.takeWhile_cons, h, if_true, List.length_cons]

theorem runLen_no (p : Int → Bool) (zs : List Int) (k : Nat) (hk : k < zs.length) (h : p (zs.getD k 0) = false) : runLen p zs k = 0 := by
  simp only [runLen, drop_at zs k hk, List.takeWhile_cons, h]; rfl

theorem blank_32 {c : Int} (h : (c == 32) = true) : blankB c = true := by simp [blankB, h]
theorem blank_9 {c : Int} (h : (c == 9) = true) : blankB c = true := by simp [blankB, h]
theorem blank_10 {c : Int} (h : (c == 10) = true) : blankB c = true := by simp [blankB, h]
theorem blank_13 {c : Int} (h : (c == 13) = true) : blankB c = true := by simp [blankB, h]
theorem blank_no {c : Int} (h1 : (c == 32) = false) (h2 : (c == 9) = false) (h3 : (c == 10) = false) (h4 : (c == 13) = false) : blankB c = false := by simp [blankB, h1, h2, h3, h4]

theorem digit_yes {c : Int} (h1 : 48 ≤ c) (h2 : c ≤ 57) : digitB c = true := by simp [digitB, h1, h2]
theorem digit_low {c : Int} (h1 : c < 48) : digitB c = false := by simp [digitB]; omega
theorem digit_high {c : Int} (h1 : 57 < c) : digitB c = false := by simp [digitB]; omega

theorem getD_take (zs : List Int) (n k : Nat) (h : k < n) : (zs.take n).getD k 0 = zs.getD k 0 := by
  simp [h]

/-- One element more has passed: the reckoning at the next place. -/
theorem run_step {p : Int → Bool} {zs : List Int} {len pos j : Nat} {c : Int} (hz : len ≤ zs.length) (hlt : j < len) (hc : c = zs.getD j 0) (hp : p c = true)
    (h : pos + runLen p (zs.take len) pos = j + runLen p (zs.take len) j) : pos + runLen p (zs.take len) pos = j + 1 + runLen p (zs.take len) (j + 1) := by
  have e := runLen_yes p (zs.take len) j (by simp; omega) (by rw [getD_take _ _ _ hlt, ← hc]; exact hp)
  omega
theorem run_stop {p : Int → Bool} {zs : List Int} {len pos j : Nat} {c : Int} (hz : len ≤ zs.length) (hlt : j < len) (hc : c = zs.getD j 0) (hp : p c = false)
    (h : pos + runLen p (zs.take len) pos = j + runLen p (zs.take len) j) : j = pos + runLen p (zs.take len) pos := by
  have e := runLen_no p (zs.take len) j (by simp; omega) (by rw [getD_take _ _ _ hlt, ← hc]; exact hp)
  omega
theorem run_out {p : Int → Bool} {zs : List Int} {len pos j : Nat} (hlt : ¬ j < len)
    (h : pos + runLen p (zs.take len) pos = j + runLen p (zs.take len) j) : j = pos + runLen p (zs.take len) pos := by
  have e := runLen_end p (zs.take len) j (by simp; omega)
  omega

/-- A run read in the text cut at c is the whole text's run, cut short at c. -/
theorem runLen_cut (p : Int → Bool) (zs : List Int) (k c n : Nat) (hc : c ≤ n) : runLen p (zs.take c) k = min (runLen p (zs.take n) k) (c - k) := by
  have key : ∀ (l : List Int) (m : Nat), ((l.take m).takeWhile p).length = min (l.takeWhile p).length m := by
    intro l
    induction l with
    | nil => intro m; simp
    | cons z l ih =>
      intro m
      cases m with
      | zero => simp
      | succ m =>
        simp only [List.take_succ_cons, List.takeWhile_cons]
        split
        · simp only [List.length_cons, ih m]; omega
        · simp
  unfold runLen
  rw [List.drop_take, List.drop_take, key, key]
  omega

theorem runLen_pos (p : Int → Bool) (zs : List Int) (n k : Nat) (hz : n ≤ zs.length) (hk : k < n) (h : p (zs.getD k 0) = true) : 0 < runLen p (zs.take n) k := by
  rw [runLen_yes p (zs.take n) k (by simp; omega) (by rw [getD_take _ _ _ hk]; exact h)]; omega
theorem runLen_zero (p : Int → Bool) (zs : List Int) (n k : Nat) (hz : n ≤ zs.length) (hk : k < n) (h : p (zs.getD k 0) = false) : runLen p (zs.take n) k = 0 :=
  runLen_no p (zs.take n) k (by simp; omega) (by rw [getD_take _ _ _ hk]; exact h)

end Go.Proofs.Qxb6619357a
