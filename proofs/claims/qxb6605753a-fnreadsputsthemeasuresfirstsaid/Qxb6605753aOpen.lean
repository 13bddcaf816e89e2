/-
  FROM THE READING OF THE ARGUMENTS TO WHAT THE WALKS ASK: a slice of names, a tree of ZCond.
-/
import Derived.Test.Qxb6605753aReadSeq
import Derived.ProofKit
import Derived.Deep.Slices
namespace Go.Proofs.Qxb6605753a
open Go.RowKit Go.Deep Go.ChangeShapes Go.WideShapes

theorem cells9 : Try.prog.cellsOf 9 = 1 := by kernel_rfl
theorem cells4 : Try.prog.cellsOf 4 = 1 := by kernel_rfl
theorem cells42 : Try.prog.cellsOf 42 = 1 := by kernel_rfl
theorem cells44 : Try.prog.cellsOf 44 = 4 := by kernel_rfl

theorem four {α : Type} (l : List α) (h : l.length = 4) : ∃ a b c d, l = [a, b, c, d] := by
  match l, h with
  | [a, b, c, d], _ => exact ⟨a, b, c, d, rfl⟩

theorem zt_of {H : Type} {enc : TypeId × Value → H} {W : World} {sp : Nat → Bool} (fuel : Nat) : ∀ (cs : List Value) (x : DataW H × List MemPlace), DataW.trod enc Try.prog W 0 sp true fuel 44 cs = some x →
    ∃ v0 v1 v2 v3 seq N, cs = [v0, v1, v2, v3] ∧ ZT W (fun b => b < W.heap.size) fuel v0 v1 v2 v3 seq N := by
  induction fuel using Nat.strongRecOn with
  | _ fuel ih =>
    intro cs x h
    obtain ⟨xs, n, rfl, _, hl, hxs, hf⟩ := DataW.trod_struct Try.underlying44 h
    rw [cells44] at hl
    obtain ⟨v0, v1, v2, v3, rfl⟩ := four cs hl
    obtain ⟨y0, y1, y2, y3, rfl⟩ := four xs hxs
    have h0 : DataW.trod enc Try.prog W 0 sp true n 9 (([v0, v1, v2, v3].drop 0).take (Try.prog.cellsOf 9)) = some y0 := hf 0 _ rfl
    have h1 : DataW.trod enc Try.prog W 0 sp true n 9 (([v0, v1, v2, v3].drop 1).take (Try.prog.cellsOf 9)) = some y1 := hf 1 _ rfl
    have h2 : DataW.trod enc Try.prog W 0 sp true n 4 (([v0, v1, v2, v3].drop 2).take (Try.prog.cellsOf 4)) = some y2 := hf 2 _ rfl
    have h3 : DataW.trod enc Try.prog W 0 sp true n 42 (([v0, v1, v2, v3].drop 3).take (Try.prog.cellsOf 42)) = some y3 := hf 3 _ rfl
    rw [cells9] at h0 h1
    rw [cells4] at h2
    rw [cells42] at h3
    obtain ⟨m, e0, _, _⟩ := DataW.trod_string Try.underlying9 h0
    obtain ⟨a, e1, _, _⟩ := DataW.trod_string Try.underlying9 h1
    obtain ⟨b, e2, _⟩ := DataW.trod_bool Try.underlying4 h2
    simp at e0 e1 e2
    subst e0; subst e1; subst e2
    rcases DataW.trod_slice Try.underlying42 h3 with ⟨e3, _⟩ | ⟨ad, len, cap, elems, rest, n', hn', e3, _, _, hlc, hm, hlen, hel, _, _⟩
    · simp at e3
      subst e3
      exact ⟨_, _, _, _, _, _, rfl, m, a, b, none, 0, 0, fun _ => [], fun _ => 0, rfl, rfl, rfl, rfl, rfl, rfl, .inl rfl⟩
    · simp at e3
      subst e3
      by_cases hz : len = 0
      · exact ⟨_, _, _, _, _, _, rfl, m, a, b, some ad, len, cap, fun _ => [], fun _ => 0, rfl, rfl, rfl, rfl, rfl, rfl, .inl hz⟩
      · obtain ⟨bb, off, spot⟩ := ad
        have each : ∀ i, i < len → ∃ u0 u1 u2 u3 seq N, (W.cell? (Addr.add ⟨bb, off, spot⟩ (i * 4)) = some u0 ∧ W.cell? ((Addr.add ⟨bb, off, spot⟩ (i * 4)).add 1) = some u1 ∧ W.cell? ((Addr.add ⟨bb, off, spot⟩ (i * 4)).add 2) = some u2 ∧ W.cell? ((Addr.add ⟨bb, off, spot⟩ (i * 4)).add 3) = some u3) ∧
            ZT W (fun b => b < W.heap.size) n u0 u1 u2 u3 seq N := fun i hi => by
          have hi' := hel i hi
          rw [cells44, List.getElem?_eq_getElem (by omega)] at hi'
          obtain ⟨cs', hcs, htr⟩ := Option.bind_eq_some_iff.1 hi'
          obtain ⟨u0, u1, u2, u3, seq, N, rfl, hz⟩ := ih n' (by omega) cs' _ htr
          obtain ⟨_, _, hcell⟩ := World.cells?_some hcs
          refine ⟨u0, u1, u2, u3, seq, N, ⟨?_, hcell 1 (by omega), hcell 2 (by omega), hcell 3 (by omega)⟩, hz.more (by omega)⟩
          have := hcell 0 (by omega)
          simpa [Addr.add] using this
        have hspot : spot = none := by
          obtain ⟨u0, _, _, _, _, _, ⟨c0, _⟩, _⟩ := each 0 (by omega)
          simpa [Addr.add] using World.cell?_spot c0
        subst hspot
        have each2 : ∀ i, i < len → ∃ y : List ByteArray × Nat, ∃ u0 u1 u2 u3, (W.cell? ⟨bb, off + i * 4, none⟩ = some u0 ∧ W.cell? ⟨bb, off + i * 4 + 1, none⟩ = some u1 ∧ W.cell? ⟨bb, off + i * 4 + 2, none⟩ = some u2 ∧ W.cell? ⟨bb, off + i * 4 + 3, none⟩ = some u3) ∧
            ZT W (fun b => b < W.heap.size) n u0 u1 u2 u3 y.1 y.2 := fun i hi => by
          obtain ⟨u0, u1, u2, u3, seq, N, ⟨c0, c1, c2, c3⟩, hz⟩ := each i hi
          simp only [Addr.add_lit] at c0 c1 c2 c3
          exact ⟨(seq, N), u0, u1, u2, u3, ⟨c0, c1, c2, c3⟩, hz⟩
        obtain ⟨F, hF⟩ := choose_lt each2
        obtain ⟨_, _, _, _, ⟨c0, _⟩, _⟩ := hF 0 (by omega)
        exact ⟨_, _, _, _, _, _, rfl, m, a, b, some ⟨bb, off, none⟩, len, cap, fun i => (F i).1, fun i => (F i).2, rfl, rfl, rfl, rfl, rfl, rfl, .inr ⟨bb, off, rfl, cell_lt c0, hF⟩⟩

/-- The second argument. -/
theorem zptr_of {H : Type} {enc : TypeId × Value → H} {W : World} {sp : Nat → Bool} {v : Value} {x : DataW H} {ps : List MemPlace} {r : Reach} {b0 : Nat} (hval : Value.okWide Try.prog W r b0 39 v) (h : DataW.Trod enc Try.prog W 0 sp true 39 v x ps) :
    ∃ seq N, ZPtr W (fun b => b < W.heap.size) v seq N := by
  rcases ChangeShapes.open_ptr Try.underlying39 (by rw [cells44]; omega) hval h with ⟨rfl, _, _⟩ | ⟨b, off, cs, y, fuel, rfl, _, _, hl, hcell, hy⟩
  · exact ⟨[], 0, .inl ⟨rfl, rfl, rfl⟩⟩
  · obtain ⟨v0, v1, v2, v3, seq, N, rfl, hz⟩ := zt_of fuel cs y hy
    rw [cells44] at hcell
    have c0 := hcell 0 (by omega)
    have c1 := hcell 1 (by omega)
    have c2 := hcell 2 (by omega)
    have c3 := hcell 3 (by omega)
    exact ⟨seq, N, .inr ⟨b, off, fuel, v0, v1, v2, v3, rfl, cell_lt c0, c0, c1, c2, c3, hz⟩⟩

/-- The first argument. -/
theorem row_of {H : Type} {enc : TypeId × Value → H} {W : World} {v : Value} {x : DataW H} {ps : List MemPlace} {r : Reach} {b0 : Nat} (hval : Value.okWide Try.prog W r b0 38 v) (h : DataW.Trod enc Try.prog W 0 (fun _ => true) true 38 v x ps) :
    ∃ ms : List ByteArray, StrRow W v ms ∧ ms.length ≤ maxLen := by
  obtain ⟨a0, len0, cap0, rfl⟩ := okWide_slice Try.underlying38 hval
  obtain ⟨fuel, hf⟩ := h
  rcases open_strings Try.underlying38 Try.underlying9 cells9 hf with ⟨hcs, _⟩ | ⟨a, len, cap, ss, hcs, _, hl, hm, hz, _, hcell, _⟩
  · simp [Value.cells] at hcs
    obtain ⟨rfl, rfl, rfl⟩ := hcs
    exact ⟨[], ⟨none, 0, rfl, .inl rfl⟩, by simp⟩
  · simp [Value.cells] at hcs
    obtain ⟨rfl, rfl, rfl⟩ := hcs
    simp at hz
    have hlen : (ss.take len0).length = len0 := by rw [List.length_take]; omega
    refine ⟨ss.take len0, ⟨_, cap0, by rw [hlen], ?_⟩, by rw [hlen]; omega⟩
    by_cases h0 : len0 = 0
    · subst h0; exact .inl rfl
    · obtain ⟨b, off, spot⟩ := a
      have hspot : spot = none := by simpa [Addr.add] using World.cell?_spot (hcell 0 (by omega))
      subst hspot
      refine .inr ⟨b, off, rfl, fun i hi => ?_⟩
      rw [hlen] at hi
      have := hcell i (by omega)
      rw [Addr.add_lit] at this
      rw [this, Pl.take_getD _ _ _ hi]
end Go.Proofs.Qxb6605753a
