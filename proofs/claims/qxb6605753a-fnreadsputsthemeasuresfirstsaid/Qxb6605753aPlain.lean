/-
  PLAIN LISTS OF NAMES: no Go in sight.
-/
import Derived.Lib.SlicesS
namespace Go.Proofs.Qxb6605753a.Pl
open Go

/-- Is it the empty name? -/
def emp (x : ByteArray) : Bool := x.toList.isEmpty

/-- names with x added, if x is not empty and names lacks it. -/
def add1 (names : List ByteArray) (x : ByteArray) : List ByteArray := if emp x = false ∧ Lib.idxOfS names x < 0 then names ++ [x] else names
theorem idx_neg (xs : List ByteArray) (x : ByteArray) : Lib.idxOfS xs x < 0 ↔ x ∉ xs := by
  rw [← Lib.idxOfS_nonneg_iff]; omega
theorem add1_yes {names : List ByteArray} {x : ByteArray} (h : emp x = false ∧ x ∉ names) : add1 names x = names ++ [x] := if_pos ⟨h.1, (idx_neg names x).2 h.2⟩
theorem add1_no {names : List ByteArray} {x : ByteArray} (h : ¬ (emp x = false ∧ x ∉ names)) : add1 names x = names := if_neg fun k => h ⟨k.1, (idx_neg names x).1 k.2⟩
/-- .. with each of 'more' added so, in order. -/
def addN (names : List ByteArray) (more : List ByteArray) : List ByteArray := more.foldl add1 names

theorem addN_append (names l1 l2 : List ByteArray) : addN names (l1 ++ l2) = addN (addN names l1) l2 := by simp [addN]
theorem addN_snoc (names l : List ByteArray) (x : ByteArray) : addN names (l ++ [x]) = add1 (addN names l) x := by simp [addN]
theorem addN_nil (names : List ByteArray) : addN names [] = names := rfl

theorem add1_prefix (names : List ByteArray) (x : ByteArray) : ∃ e, add1 names x = names ++ e ∧ e.length ≤ 1 := by
  unfold add1
  split
  · exact ⟨[x], rfl, by simp⟩
  · exact ⟨[], by simp, by simp⟩

theorem addN_grows (names more : List ByteArray) : ∃ e, addN names more = names ++ e ∧ e.length ≤ more.length := by
  induction more generalizing names with
  | nil => exact ⟨[], by simp [addN], by simp⟩
  | cons x r ih =>
    obtain ⟨e1, h1, l1⟩ := add1_prefix names x
    obtain ⟨e2, h2, l2⟩ := ih (add1 names x)
    refine ⟨e1 ++ e2, ?_, by simp; omega⟩
    show addN (add1 names x) r = _
    rw [h2, h1, List.append_assoc]

theorem addN_len (names more : List ByteArray) : (addN names more).length ≤ names.length + more.length := by
  obtain ⟨e, h, l⟩ := addN_grows names more
  rw [h, List.length_append]; omega

/-! ### The first index -/

theorem idx_hit (xs : List ByteArray) (k : Nat) (x : ByteArray) (hk : k < xs.length) (h : xs.getD k ByteArray.empty = x) (hne : ∀ j, j < k → xs.getD j ByteArray.empty ≠ x) : Lib.idxOfS xs x = k := by
  have := Lib.idxOfS_hit xs xs.length k x hk (Nat.le_refl _) h hne
  rwa [List.take_length] at this

theorem idx_miss (xs : List ByteArray) (x : ByteArray) (h : ∀ j, j < xs.length → xs.getD j ByteArray.empty ≠ x) : Lib.idxOfS xs x = -1 := by
  have := Lib.idxOfS_miss xs xs.length x h
  rwa [List.take_length] at this

theorem getD_mem (xs : List ByteArray) (k : Nat) (hk : k < xs.length) : xs.getD k ByteArray.empty ∈ xs := by
  rw [List.getD_eq_getElem?_getD, List.getElem?_eq_getElem hk]
  exact List.getElem_mem hk

theorem mem_getD {xs : List ByteArray} {x : ByteArray} (h : x ∈ xs) : ∃ k, k < xs.length ∧ xs.getD k ByteArray.empty = x := by
  obtain ⟨k, hk, rfl⟩ := List.getElem_of_mem h
  exact ⟨k, hk, by rw [List.getD_eq_getElem?_getD, List.getElem?_eq_getElem hk]; rfl⟩

/-- The first place of a name that is there. -/
theorem first_place {xs : List ByteArray} {x : ByteArray} (h : x ∈ xs) : ∃ k, k < xs.length ∧ xs.getD k ByteArray.empty = x ∧ ∀ j, j < k → xs.getD j ByteArray.empty ≠ x := by
  obtain ⟨k, hk, hx⟩ := mem_getD h
  induction k using Nat.strongRecOn with
  | _ k ih =>
    by_cases hm : ∃ m, m < k ∧ xs.getD m ByteArray.empty = x
    · obtain ⟨m, hlt, hp⟩ := hm
      exact ih m hlt (by omega) hp
    · exact ⟨k, hk, hx, fun j hj e => hm ⟨j, hj, e⟩⟩

theorem idx_mem {xs : List ByteArray} {x : ByteArray} (h : x ∈ xs) : 0 ≤ Lib.idxOfS xs x := (Lib.idxOfS_nonneg_iff xs x).2 h
theorem idx_not {xs : List ByteArray} {x : ByteArray} (h : x ∉ xs) : Lib.idxOfS xs x = -1 :=
  idx_miss xs x fun _ hj e => h (e ▸ getD_mem xs _ hj)

theorem take_getD (xs : List ByteArray) (k j : Nat) (hj : j < k) : (xs.take k).getD j ByteArray.empty = xs.getD j ByteArray.empty := Lib.getD_takeS xs k j hj

/-- The first index lies below k just where the name is among the first k. -/
theorem idx_lt {xs : List ByteArray} {k : Nat} (hk : k ≤ xs.length) {x : ByteArray} (h : x ∈ xs.take k) : Lib.idxOfS xs x < k := by
  obtain ⟨m, hm, hx, hf⟩ := first_place h
  have hm' : m < k := by simp at hm; omega
  rw [idx_hit xs m x (by omega) (by rw [← take_getD xs k m hm']; exact hx) (fun j hj => by rw [← take_getD xs k j (by omega)]; exact hf j hj)]
  omega

theorem idx_at {xs : List ByteArray} {k : Nat} (hk : k < xs.length) : Lib.idxOfS xs (xs.getD k ByteArray.empty) = k ↔ xs.getD k ByteArray.empty ∉ xs.take k := by
  constructor
  · intro h hm
    have := idx_lt (Nat.le_of_lt hk) hm
    omega
  · intro h
    refine idx_hit xs k _ hk rfl fun j hj e => h ?_
    rw [← e, ← take_getD xs k j hj]
    exact getD_mem _ _ (by simp; omega)

theorem take_snoc (xs : List ByteArray) (k : Nat) (hk : k < xs.length) : xs.take (k + 1) = xs.take k ++ [xs.getD k ByteArray.empty] := by
  rw [List.take_succ_eq_append_getElem hk, List.getD_eq_getElem?_getD, List.getElem?_eq_getElem hk]; rfl

/-! ### The count of the distinct names -/

/-- Does place j count? -/
def cnt (xs : List ByteArray) (j : Nat) : Bool := emp (xs.getD j ByteArray.empty) == false && Lib.idxOfS xs (xs.getD j ByteArray.empty) == j
/-- .. over the first k places. -/
def dneTo (xs : List ByteArray) : Nat → Nat
  | 0 => 0
  | k + 1 => dneTo xs k + if cnt xs k = true then 1 else 0
theorem dneTo_le (xs : List ByteArray) (k : Nat) : dneTo xs k ≤ k := by
  induction k with
  | zero => exact Nat.le_refl _
  | succ k ih => simp only [dneTo]; split <;> omega

/-- WHAT IS GATHERED out of the first k names. -/
structure Gath (xs : List ByteArray) (k : Nat) (G : List ByteArray) : Prop where
  ok : ∀ a, a ∈ G → emp a = false ∧ a ∈ xs.take k
  all : ∀ a, a ∈ xs.take k → emp a = false → a ∈ G
  up : G.Pairwise fun a b => Lib.idxOfS xs a < Lib.idxOfS xs b
  len : G.length = dneTo xs k

theorem gath (xs : List ByteArray) (k : Nat) (hk : k ≤ xs.length) : Gath xs k (addN [] (xs.take k)) := by
  induction k with
  | zero => exact ⟨by simp [addN], by simp, by simp [addN], by simp [addN, dneTo]⟩
  | succ k ih =>
    obtain ⟨ok, all, up, len⟩ := ih (by omega)
    have hk' : k < xs.length := by omega
    rw [take_snoc xs k hk', addN_snoc]
    generalize hG : addN [] (xs.take k) = G at *
    generalize hx : xs.getD k ByteArray.empty = x at *
    have hat := idx_at hk'
    rw [hx] at hat
    have hin : emp x = false → (x ∉ G ↔ Lib.idxOfS xs x = k) := fun he => by
      rw [hat]
      exact ⟨fun h hm => h (all x hm he), fun h hm => h (ok x hm).2⟩
    by_cases hc : emp x = false ∧ x ∉ G
    · have e1 : add1 G x = G ++ [x] := add1_yes hc
      have hix := (hin hc.1).1 hc.2
      have hcnt : cnt xs k = true := by unfold cnt; rw [hx]; simp [hc.1, hix]
      rw [e1]
      refine ⟨?_, ?_, ?_, ?_⟩
      · intro a ha
        rcases List.mem_append.1 ha with ha | ha
        · exact ⟨(ok a ha).1, by rw [take_snoc xs k hk']; exact List.mem_append_left _ (ok a ha).2⟩
        · simp at ha
          subst ha
          exact ⟨hc.1, by rw [take_snoc xs k hk', hx]; simp⟩
      · intro a ha he
        rw [take_snoc xs k hk', hx] at ha
        rcases List.mem_append.1 ha with ha | ha
        · exact List.mem_append_left _ (all a ha he)
        · exact List.mem_append_right _ ha
      · rw [List.pairwise_append]
        refine ⟨up, by simp, fun a ha b hb => ?_⟩
        simp at hb
        subst hb
        rw [hix]
        exact idx_lt (by omega) (ok a ha).2
      · simp [dneTo, hcnt, len]
    · have e1 : add1 G x = G := add1_no hc
      have hcnt : cnt xs k = false := by
        cases he : emp x with
        | true => unfold cnt; rw [hx]; simp [he]
        | false =>
          have h2 : ¬ Lib.idxOfS xs x = k := fun h => hc ⟨he, (hin he).2 h⟩
          unfold cnt; rw [hx]; simp [h2]
      rw [e1]
      refine ⟨?_, ?_, up, ?_⟩
      · intro a ha
        exact ⟨(ok a ha).1, by rw [take_snoc xs k hk']; exact List.mem_append_left _ (ok a ha).2⟩
      · intro a ha he
        rw [take_snoc xs k hk', hx] at ha
        rcases List.mem_append.1 ha with ha | ha
        · exact all a ha he
        · simp at ha
          subst ha
          exact Classical.byContradiction fun hn => hc ⟨he, hn⟩
      · simp [dneTo, hcnt, len]

/-- What is gathered of all of them. -/
theorem gath_all (xs : List ByteArray) : Gath xs xs.length (addN [] xs) := by
  have := gath xs xs.length (Nat.le_refl _)
  rwa [List.take_length] at this

theorem up_at {xs G : List ByteArray} {k : Nat} (h : Gath xs k G) {i j : Nat} (hij : i < j) (hj : j < G.length) : Lib.idxOfS xs (G.getD i ByteArray.empty) < Lib.idxOfS xs (G.getD j ByteArray.empty) := by
  have := List.pairwise_iff_getElem.1 h.up i j (by omega) hj hij
  rwa [List.getD_eq_getElem?_getD, List.getD_eq_getElem?_getD, List.getElem?_eq_getElem (show i < G.length by omega), List.getElem?_eq_getElem hj]

/-- No name is gathered twice: so its first index among what is gathered is its own place. -/
theorem own_place {xs G : List ByteArray} {k : Nat} (h : Gath xs k G) {i : Nat} (hi : i < G.length) : Lib.idxOfS G (G.getD i ByteArray.empty) = i :=
  idx_hit G i _ hi rfl fun j hj e => by
    have := up_at h hj hi
    rw [e] at this
    omega

/-- Behind the measures' own names stand just names that no measure has. -/
theorem past_own {ms c : List ByteArray} {k : Nat} (hk : k < (addN [] (ms ++ c)).length) (hb : (addN [] ms).length ≤ k) : Lib.idxOfS ms ((addN [] (ms ++ c)).getD k ByteArray.empty) = -1 := by
  refine idx_not fun hm => ?_
  have hF := gath_all (ms ++ c)
  have hB := gath_all ms
  obtain ⟨e, he, _⟩ := addN_grows (addN [] ms) c
  rw [← addN_append] at he
  have hne := (hF.ok _ (getD_mem _ k hk)).1
  have hin := hB.all _ (by rw [List.take_length]; exact hm) hne
  obtain ⟨i, hi, hx⟩ := mem_getD hin
  have hx' : (addN [] (ms ++ c)).getD i ByteArray.empty = (addN [] (ms ++ c)).getD k ByteArray.empty := by
    rw [← hx, he, List.getD_eq_getElem?_getD, List.getElem?_append_left hi, ← List.getD_eq_getElem?_getD]
  have h1 := own_place hF hk
  have h2 := own_place hF (i := i) (by omega)
  rw [hx'] at h2
  omega

/-- The measures' own names stand in front. -/
theorem front {ms c : List ByteArray} {i : Nat} (hi : i < (addN [] ms).length) : (addN [] (ms ++ c)).getD i ByteArray.empty = (addN [] ms).getD i ByteArray.empty := by
  obtain ⟨e, he, _⟩ := addN_grows (addN [] ms) c
  rw [← addN_append] at he
  rw [he, List.getD_eq_getElem?_getD, List.getElem?_append_left hi, ← List.getD_eq_getElem?_getD]

theorem front_len (ms c : List ByteArray) : (addN [] ms).length ≤ (addN [] (ms ++ c)).length := by
  obtain ⟨e, he, _⟩ := addN_grows (addN [] ms) c
  rw [← addN_append] at he
  rw [he, List.length_append]; omega
end Go.Proofs.Qxb6605753a.Pl
