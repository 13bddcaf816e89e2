/-
  The first argument: a slice of pairs.
-/
import Derived.Test.Qxb6605601aClone
import Derived.ProofKit
import Derived.OpenShut
import Derived.Deep.Slices
namespace Go.Proofs.Qxb6605601a
open Go.RowKit Go.Deep Go.ChangeShapes Go.WideShapes

theorem two {α : Type} (l : List α) (h : l.length = 2) : ∃ a b, l = [a, b] := by
  match l, h with
  | [a, b], _ => exact ⟨a, b, rfl⟩

set_option maxRecDepth 100000 in
theorem pair_of {H : Type} {enc : TypeId × Value → H} {W : World} {sp : Nat → Bool} {fuel : Nat} {cs : List Value} {x : DataW H × List MemPlace} (h : DataW.trod enc Try.prog W 0 sp true fuel 42 cs = some x) :
    ∃ a b : Int, cs = [.int .i32 a, .int .i32 b] ∧ Wf (a, b) := by
  obtain ⟨xs, n, rfl, _, hl, hxs, hf⟩ := DataW.trod_array Try.underlying42 h
  rw [cells42] at hl
  obtain ⟨v0, v1, rfl⟩ := two cs hl
  obtain ⟨y0, y1, rfl⟩ := two xs hxs
  have h0 := hf 0 (by omega)
  have h1 := hf 1 (by omega)
  rw [cells21] at h0 h1
  have h0 : DataW.trod enc Try.prog W 0 sp true n 21 [v0] = some y0 := h0
  have h1 : DataW.trod enc Try.prog W 0 sp true n 21 [v1] = some y1 := h1
  obtain ⟨a, e0, _, wa⟩ := DataW.trod_int Try.underlying21 h0
  obtain ⟨b, e1, _, wb⟩ := DataW.trod_int Try.underlying21 h1
  simp at e0 e1
  subst e0; subst e1
  exact ⟨a, b, rfl, wa, wb⟩

theorem choose_list {P : Nat → Int × Int → Prop} (n : Nat) (h : ∀ i, i < n → ∃ p, P i p) : ∃ l : List (Int × Int), l.length = n ∧ ∀ i, i < n → P i (l.getD i (0, 0)) := by
  induction n with
  | zero => exact ⟨[], rfl, fun i hi => by omega⟩
  | succ n ih =>
    obtain ⟨l, hl, hp⟩ := ih (fun i hi => h i (by omega))
    obtain ⟨p, hpn⟩ := h n (by omega)
    refine ⟨l ++ [p], by simp [hl], fun i hi => ?_⟩
    by_cases e : i = n
    · subst e
      simpa [hl] using hpn
    · have := hp i (by omega)
      simpa [List.getD_eq_getElem?_getD, List.getElem?_append_left (show i < l.length by omega)] using this

set_option maxRecDepth 100000 in
theorem krow_of {H : Type} {enc : TypeId × Value → H} {W : World} {sp : Nat → Bool} {fuel : Nat} {cs : List Value} {x : DataW H × List MemPlace} (h : DataW.trod enc Try.prog W 0 sp true fuel 37 cs = some x) :
    ∃ v ks, cs = [v] ∧ KRow W v ks ∧ ∀ k ∈ ks, Wf k := by
  rcases DataW.trod_slice Try.underlying37 h with ⟨rfl, _⟩ | ⟨ad, len, cap, elems, rest, n', hn', rfl, _, _, hlc, hm, hlen, hel, _, _⟩
  · exact ⟨_, [], rfl, .inl ⟨rfl, rfl⟩, fun k hk => by simp at hk⟩
  · by_cases hz : len = 0
    · subst hz
      exact ⟨_, [], rfl, .inr (.inl ⟨ad, cap, rfl, rfl⟩), fun k hk => by simp at hk⟩
    · obtain ⟨bb, off, spot⟩ := ad
      have each : ∀ i, i < len → ∃ p : Int × Int, (W.cell? (Addr.add ⟨bb, off, spot⟩ (i * 2)) = some (.int .i32 p.1) ∧ W.cell? ((Addr.add ⟨bb, off, spot⟩ (i * 2)).add 1) = some (.int .i32 p.2)) ∧ Wf p := fun i hi => by
        have hi' := hel i hi
        rw [cells42, List.getElem?_eq_getElem (by omega)] at hi'
        obtain ⟨cs', hcs, htr⟩ := Option.bind_eq_some_iff.1 hi'
        obtain ⟨a, b, rfl, hw⟩ := pair_of htr
        obtain ⟨_, _, hcell⟩ := World.cells?_some hcs
        refine ⟨(a, b), ⟨?_, hcell 1 (by omega)⟩, hw⟩
        have := hcell 0 (by omega)
        simpa [Addr.add] using this
      have hspot : spot = none := by
        obtain ⟨_, ⟨c0, _⟩, _⟩ := each 0 (by omega)
        simpa [Addr.add] using World.cell?_spot c0
      subst hspot
      obtain ⟨l, hl, hp⟩ := choose_list len each
      refine ⟨_, l, rfl, .inr (.inr ⟨bb, off, cap, by rw [hl], fun i hi => ?_⟩), fun k hk => ?_⟩
      · rw [hl] at hi
        obtain ⟨⟨c0, c1⟩, _⟩ := hp i hi
        simp only [Addr.add_lit] at c0 c1
        exact ⟨c0, c1⟩
      · obtain ⟨i, hi, rfl⟩ := List.getElem_of_mem hk
        have := (hp i (by omega)).2
        rwa [List.getD_eq_getElem?_getD, List.getElem?_eq_getElem hi] at this
end Go.Proofs.Qxb6605601a
