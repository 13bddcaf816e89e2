/-
  MANGLED NAMES AS PLAIN LISTS OF BYTES: no Go in sight.
-/
namespace Go.Proofs.Qxb6605778aFmt.Pl

/-- What Unmangle answers: 64 is the at sign, 47 the slash, 95 the low line. -/
def unm : List UInt8 → Option (List UInt8)
  | [] => some []
  | [c] => if c = 47 then none else if c = 64 then none else some [c]
  | c :: d :: r => if c = 47 then none else if c = 64 then (if d = 64 then (unm r).map (64 :: ·) else if d = 95 then (unm r).map (47 :: ·) else none) else (unm (d :: r)).map (c :: ·)

theorem unm_slash (l : List UInt8) : unm (47 :: l) = none := by cases l <;> simp [unm]
theorem unm_plain (c : UInt8) (l : List UInt8) (h1 : c ≠ 47) (h2 : c ≠ 64) : unm (c :: l) = (unm l).map (c :: ·) := by
  cases l <;> simp [unm, h1, h2]
theorem unm_at2 (l : List UInt8) : unm (64 :: 64 :: l) = (unm l).map (64 :: ·) := by simp [unm]
theorem unm_low (l : List UInt8) : unm (64 :: 95 :: l) = (unm l).map (47 :: ·) := by simp [unm]
theorem unm_bad (d : UInt8) (l : List UInt8) (h1 : d ≠ 64) (h2 : d ≠ 95) : unm (64 :: d :: l) = none := by simp [unm, h1, h2]
theorem unm_end : unm [64] = none := by simp [unm]

/-- What mangleModel writes for one byte; for all. -/
def mng1 (c : UInt8) : List UInt8 := if c = 64 then [64, 64] else if c = 47 then [64, 95] else [c]
def mng (l : List UInt8) : List UInt8 := l.flatMap mng1
theorem mng_snoc (l : List UInt8) (c : UInt8) : mng (l ++ [c]) = mng l ++ mng1 c := by simp [mng]
theorem mng1_len (c : UInt8) : (mng1 c).length ≤ 2 := by
  unfold mng1
  by_cases h1 : c = 64
  · simp [h1]
  · by_cases h2 : c = 47 <;> simp [h1, h2]
theorem mng_len (l : List UInt8) : (mng l).length ≤ 2 * l.length := by
  induction l with
  | nil => simp [mng]
  | cons c l ih =>
    have h1 := mng1_len c
    simp only [mng, List.flatMap_cons, List.length_append, List.length_cons] at ih ⊢
    omega

theorem unm_mng (l : List UInt8) : unm (mng l) = some l := by
  induction l with
  | nil => rfl
  | cons c l ih =>
    show unm (mng1 c ++ mng l) = _
    unfold mng1
    by_cases h1 : c = 64
    · subst h1
      rw [if_pos rfl]
      show unm (64 :: 64 :: mng l) = _
      rw [unm_at2, ih]; rfl
    · rw [if_neg h1]
      by_cases h2 : c = 47
      · subst h2
        rw [if_pos rfl]
        show unm (64 :: 95 :: mng l) = _
        rw [unm_low, ih]; rfl
      · rw [if_neg h2]
        show unm (c :: mng l) = _
        rw [unm_plain c _ h2 h1, ih]; rfl

/-! ### Reading on from place i, 'out' written so far -/

def Inv (s : List UInt8) (i : Nat) (out : List UInt8) : Prop := unm s = (unm (s.drop i)).map (out ++ ·)

theorem inv_start (s : List UInt8) : Inv s 0 [] := by unfold Inv; simp

theorem drop_at (s : List UInt8) (i : Nat) (h : i < s.length) : s.drop i = s.getD i 0 :: s.drop (i + 1) := by
  rw [List.drop_eq_getElem_cons h, List.getD_eq_getElem?_getD, List.getElem?_eq_getElem h]; rfl

theorem inv_plain {s : List UInt8} {i : Nat} {out : List UInt8} {c : UInt8} (h : Inv s i out) (hi : i < s.length) (hc : s.getD i 0 = c) (h1 : c ≠ 47) (h2 : c ≠ 64) : Inv s (i + 1) (out ++ [c]) := by
  unfold Inv at *
  rw [h, drop_at s i hi, hc, unm_plain c _ h1 h2, Option.map_map]
  congr 1
  funext t
  simp

theorem inv_slash {s : List UInt8} {i : Nat} {out : List UInt8} (h : Inv s i out) (hi : i < s.length) (hc : s.getD i 0 = 47) : unm s = none := by
  unfold Inv at h
  rw [h, drop_at s i hi, hc, unm_slash]; rfl

theorem inv_two {s : List UInt8} {i : Nat} {out : List UInt8} (h : Inv s i out) (hi : i + 1 < s.length) (hc : s.getD i 0 = 64) (hd : s.getD (i + 1) 0 = 64) : Inv s (i + 1 + 1) (out ++ [64]) := by
  unfold Inv at *
  rw [h, drop_at s i (by omega), hc, drop_at s (i + 1) hi, hd, unm_at2, Option.map_map]
  congr 1
  funext t
  simp

theorem inv_low {s : List UInt8} {i : Nat} {out : List UInt8} (h : Inv s i out) (hi : i + 1 < s.length) (hc : s.getD i 0 = 64) (hd : s.getD (i + 1) 0 = 95) : Inv s (i + 1 + 1) (out ++ [47]) := by
  unfold Inv at *
  rw [h, drop_at s i (by omega), hc, drop_at s (i + 1) hi, hd, unm_low, Option.map_map]
  congr 1
  funext t
  simp

theorem inv_bad {s : List UInt8} {i : Nat} {out : List UInt8} (h : Inv s i out) (hi : i < s.length) (hc : s.getD i 0 = 64) (hd : i + 1 < s.length → s.getD (i + 1) 0 ≠ 64 ∧ s.getD (i + 1) 0 ≠ 95) : unm s = none := by
  unfold Inv at h
  rw [h, drop_at s i hi, hc]
  by_cases hl : i + 1 < s.length
  · rw [drop_at s (i + 1) hl, unm_bad _ _ (hd hl).1 (hd hl).2]; rfl
  · rw [List.drop_eq_nil_of_le (by omega), unm_end]; rfl

theorem inv_end {s : List UInt8} {out : List UInt8} (h : Inv s s.length out) : unm s = some out := by
  unfold Inv at h
  rw [h, List.drop_length]
  simp [unm]

/-! ### A run of at signs -/

theorem run_even (m : Nat) (l : List UInt8) : unm (List.replicate (2 * m) 64 ++ l) = (unm l).map (List.replicate m 64 ++ ·) := by
  induction m with
  | zero => simp
  | succ m ih =>
    have e : List.replicate (2 * (m + 1)) (64 : UInt8) = 64 :: 64 :: List.replicate (2 * m) 64 := by rw [show 2 * (m + 1) = 2 * m + 1 + 1 by omega, List.replicate_succ, List.replicate_succ]
    rw [e]
    show unm (64 :: 64 :: (List.replicate (2 * m) 64 ++ l)) = _
    rw [unm_at2, ih, Option.map_map]
    congr 1

theorem drop_run (s : List UInt8) (i j : Nat) (hij : i ≤ j) (hj : j ≤ s.length) (h : ∀ t, i ≤ t → t < j → s.getD t 0 = 64) : s.drop i = List.replicate (j - i) 64 ++ s.drop j := by
  induction k : j - i generalizing i with
  | zero =>
    have : i = j := by omega
    subst this; simp
  | succ n ih =>
    rw [drop_at s i (by omega), h i (Nat.le_refl _) (by omega), List.replicate_succ, ih (i + 1) (by omega) (fun t h1 h2 => h t (by omega) h2) (by omega)]
    rfl

theorem inv_even {s : List UInt8} {i j m : Nat} {out : List UInt8} (h : Inv s i out) (hij : i ≤ j) (hj : j ≤ s.length) (hr : ∀ t, i ≤ t → t < j → s.getD t 0 = 64) (hm : j - i = 2 * m) : Inv s j (out ++ List.replicate m 64) := by
  unfold Inv at *
  rw [h, drop_run s i j hij hj hr, hm, run_even, Option.map_map]
  congr 1
  funext t
  simp

/-- An odd run: its last sign stands before what follows. -/
theorem inv_odd {s : List UInt8} {i j m : Nat} {out : List UInt8} (h : Inv s i out) (hij : i ≤ j) (hj : j ≤ s.length) (hr : ∀ t, i ≤ t → t < j → s.getD t 0 = 64) (hm : j - i = 2 * m + 1) :
    Inv s (j - 1) (out ++ List.replicate m 64) ∧ s.getD (j - 1) 0 = 64 :=
  ⟨inv_even h (by omega) (by omega) (fun t h1 h2 => hr t h1 (by omega)) (by omega), hr _ (by omega) (by omega)⟩

theorem inv_odd_low {s : List UInt8} {i j m : Nat} {out : List UInt8} (h : Inv s i out) (hij : i ≤ j) (hj : j < s.length) (hr : ∀ t, i ≤ t → t < j → s.getD t 0 = 64) (hm : j - i = 2 * m + 1) (hd : s.getD j 0 = 95) :
    Inv s (j + 1) (out ++ List.replicate m 64 ++ [47]) := by
  obtain ⟨h1, h2⟩ := inv_odd h hij (by omega) hr hm
  obtain ⟨k, rfl⟩ : ∃ k, j = k + 1 := ⟨j - 1, by omega⟩
  simp only [Nat.add_sub_cancel] at h1 h2
  exact inv_low h1 hj h2 hd

theorem inv_odd_bad {s : List UInt8} {i j m : Nat} {out : List UInt8} (h : Inv s i out) (hij : i ≤ j) (hj : j ≤ s.length) (hr : ∀ t, i ≤ t → t < j → s.getD t 0 = 64) (hm : j - i = 2 * m + 1)
    (hd : j < s.length → s.getD j 0 ≠ 64 ∧ s.getD j 0 ≠ 95) : unm s = none := by
  obtain ⟨h1, h2⟩ := inv_odd h hij (by omega) hr hm
  obtain ⟨k, rfl⟩ : ∃ k, j = k + 1 := ⟨j - 1, by omega⟩
  simp only [Nat.add_sub_cancel] at h1 h2
  exact inv_bad h1 (by omega) h2 hd
end Go.Proofs.Qxb6605778aFmt.Pl
