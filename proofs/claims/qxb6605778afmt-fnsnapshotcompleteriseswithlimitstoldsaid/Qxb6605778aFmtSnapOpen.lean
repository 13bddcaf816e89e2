/-
  FROM THE READING OF THE ARGUMENTS TO WHAT THE WALK ASKS.
-/
import Derived.Test.Qxb6605778aFmtSnap1
import Derived.ProofKit
import Derived.Deep.Slices
namespace Go.Proofs.Qxb6605778aFmt
open Go.RowKit Go.Deep Go.ChangeShapes Go.WideShapes

theorem cells2 : Tryf.prog.cellsOf 2 = 1 := by kernel_rfl
theorem cells4 : Tryf.prog.cellsOf 4 = 1 := by kernel_rfl
theorem cells5 : Tryf.prog.cellsOf 5 = 1 := by kernel_rfl
theorem cells9 : Tryf.prog.cellsOf 9 = 1 := by kernel_rfl
theorem cells30 : Tryf.prog.cellsOf 30 = 1 := by kernel_rfl
theorem cells51 : Tryf.prog.cellsOf 51 = 1 := by kernel_rfl
theorem cells58 : Tryf.prog.cellsOf 58 = 2 := by kernel_rfl
theorem cells60 : Tryf.prog.cellsOf 60 = 4 := by kernel_rfl
theorem cells62 : Tryf.prog.cellsOf 62 = 2 := by kernel_rfl

theorem four {α : Type} (l : List α) (h : l.length = 4) : ∃ a b c d, l = [a, b, c, d] := by
  match l, h with
  | [a, b, c, d], _ => exact ⟨a, b, c, d, rfl⟩
theorem two {α : Type} (l : List α) (h : l.length = 2) : ∃ a b, l = [a, b] := by
  match l, h with
  | [a, b], _ => exact ⟨a, b, rfl⟩

section
variable {H : Type} {enc : TypeId × Value → H} {W : World} {sp : Nat → Bool}

theorem tl_of {fuel : Nat} {cs : List Value} {x : DataW H × List MemPlace} (h : DataW.trod enc Tryf.prog W 0 sp true fuel 30 cs = some x) : ∃ p t, cs = [.pointer p] ∧ TLp W (.pointer p) t := by
  rcases DataW.trod_pointer Tryf.underlying30 h with ⟨rfl, _⟩ | ⟨a, cs', y, n, rfl, rfl, _, hcs, hy⟩
  · exact ⟨none, none, rfl, .inl ⟨rfl, rfl⟩⟩
  · rw [cells58] at hcs
    obtain ⟨_, hl, hcell⟩ := World.cells?_some hcs
    obtain ⟨v0, v1, rfl⟩ := two cs' hl
    obtain ⟨xs, n', rfl, _, _, hxs, hf⟩ := DataW.trod_struct Tryf.underlying58 hy
    obtain ⟨y0, y1, rfl⟩ := two xs hxs
    have h0 : DataW.trod enc Tryf.prog W 0 sp true n' 2 (([v0, v1].drop 0).take (Tryf.prog.cellsOf 2)) = some y0 := hf 0 _ rfl
    have h1 : DataW.trod enc Tryf.prog W 0 sp true n' 9 (([v0, v1].drop 1).take (Tryf.prog.cellsOf 9)) = some y1 := hf 1 _ rfl
    rw [cells2] at h0
    rw [cells9] at h1
    obtain ⟨l, e0, _, _⟩ := DataW.trod_int Tryf.underlying2 h0
    obtain ⟨r, e1, _, _⟩ := DataW.trod_string Tryf.underlying9 h1
    simp at e0 e1
    subst e0; subst e1
    obtain ⟨b, off, spot⟩ := a
    have c0 := hcell 0 (by omega)
    have c1 := hcell 1 (by omega)
    have hspot : spot = none := by simpa [Addr.add] using World.cell?_spot c0
    subst hspot
    rw [Addr.add_lit] at c0 c1
    exact ⟨_, some (l, r), rfl, .inr ⟨b, off, l, r, rfl, c0, c1, rfl⟩⟩

theorem bytes_of {fuel : Nat} {cs : List Value} {x : DataW H × List MemPlace} (h : DataW.trod enc Tryf.prog W 0 sp true fuel 51 cs = some x) : ∃ a l c n, cs = [.slice a l c] ∧ BytesOK W (.slice a l c) n := by
  rcases open_ints Tryf.underlying51 Tryf.underlying5 cells5 h with ⟨rfl, _⟩ | ⟨a, len, cap, zs, rfl, _, hl, hm, hz, _, hcell, _⟩
  · exact ⟨_, _, _, 0, rfl, .inl ⟨rfl, rfl⟩⟩
  · by_cases h0 : len = 0
    · subst h0
      exact ⟨_, _, _, 0, rfl, .inr (.inl ⟨a, cap, rfl, rfl⟩)⟩
    · have hzl : len ≤ zs.length := by
        rw [hz]; split <;> omega
      obtain ⟨b, off, spot⟩ := a
      have hspot : spot = none := by simpa [Addr.add] using World.cell?_spot (hcell 0 (by omega))
      subst hspot
      refine ⟨_, _, _, len, rfl, .inr (.inr ⟨b, off, cap, fun i => zs.getD i 0, rfl, fun i hi => ?_⟩)⟩
      have := hcell i (by omega)
      rwa [Addr.add_lit] at this

theorem ch_of {fuel : Nat} {cs : List Value} {x : DataW H × List MemPlace} (h : DataW.trod enc Tryf.prog W 0 sp true fuel 31 cs = some x) : ∃ p c n, cs = [.pointer p] ∧ CHp W (.pointer p) c (fun lk => BytesOK W lk n) := by
  rcases DataW.trod_pointer Tryf.underlying31 h with ⟨rfl, _⟩ | ⟨a, cs', y, n, rfl, rfl, _, hcs, hy⟩
  · exact ⟨none, none, 0, rfl, .inl ⟨rfl, rfl⟩⟩
  · rw [cells60] at hcs
    obtain ⟨_, hl, hcell⟩ := World.cells?_some hcs
    obtain ⟨v0, v1, v2, v3, rfl⟩ := four cs' hl
    obtain ⟨xs, n', rfl, _, _, hxs, hf⟩ := DataW.trod_struct Tryf.underlying60 hy
    obtain ⟨y0, y1, y2, y3, rfl⟩ := four xs hxs
    have h0 : DataW.trod enc Tryf.prog W 0 sp true n' 4 (([v0, v1, v2, v3].drop 0).take (Tryf.prog.cellsOf 4)) = some y0 := hf 0 _ rfl
    have h1 : DataW.trod enc Tryf.prog W 0 sp true n' 9 (([v0, v1, v2, v3].drop 1).take (Tryf.prog.cellsOf 9)) = some y1 := hf 1 _ rfl
    have h2 : DataW.trod enc Tryf.prog W 0 sp true n' 51 (([v0, v1, v2, v3].drop 2).take (Tryf.prog.cellsOf 51)) = some y2 := hf 2 _ rfl
    have h3 : DataW.trod enc Tryf.prog W 0 sp true n' 30 (([v0, v1, v2, v3].drop 3).take (Tryf.prog.cellsOf 30)) = some y3 := hf 3 _ rfl
    rw [cells4] at h0
    rw [cells9] at h1
    rw [cells51] at h2
    rw [cells30] at h3
    obtain ⟨d, e0, _⟩ := DataW.trod_bool Tryf.underlying4 h0
    obtain ⟨cap, e1, _, _⟩ := DataW.trod_string Tryf.underlying9 h1
    obtain ⟨la, ll, lc, m, e2, hb⟩ := bytes_of h2
    obtain ⟨q, tl, e3, ht⟩ := tl_of h3
    simp at e0 e1 e2 e3
    subst e0; subst e1; subst e2; subst e3
    obtain ⟨b, off, spot⟩ := a
    have c0 := hcell 0 (by omega)
    have c1 := hcell 1 (by omega)
    have c2 := hcell 2 (by omega)
    have c3 := hcell 3 (by omega)
    have hspot : spot = none := by simpa [Addr.add] using World.cell?_spot c0
    subst hspot
    rw [Addr.add_lit] at c0 c1 c2 c3
    exact ⟨_, some (d, cap, tl), m, rfl, .inr ⟨b, off, d, cap, la, ll, lc, q, tl, rfl, c0, c1, c2, c3, hb, ht, rfl⟩⟩

theorem dc_of {fuel : Nat} {cs : List Value} {x : DataW H × List MemPlace} (h : DataW.trod enc Tryf.prog W 0 sp true fuel 32 cs = some x) : ∃ p c n, cs = [.pointer p] ∧ DCp W (.pointer p) c (fun lk => BytesOK W lk n) := by
  rcases DataW.trod_pointer Tryf.underlying32 h with ⟨rfl, _⟩ | ⟨a, cs', y, n, rfl, rfl, _, hcs, hy⟩
  · exact ⟨none, none, 0, rfl, .inl ⟨rfl, rfl⟩⟩
  · rw [cells62] at hcs
    obtain ⟨_, hl, hcell⟩ := World.cells?_some hcs
    obtain ⟨v0, v1, rfl⟩ := two cs' hl
    obtain ⟨xs, n', rfl, _, _, hxs, hf⟩ := DataW.trod_struct Tryf.underlying62 hy
    obtain ⟨y0, y1, rfl⟩ := two xs hxs
    have h0 : DataW.trod enc Tryf.prog W 0 sp true n' 51 (([v0, v1].drop 0).take (Tryf.prog.cellsOf 51)) = some y0 := hf 0 _ rfl
    have h1 : DataW.trod enc Tryf.prog W 0 sp true n' 30 (([v0, v1].drop 1).take (Tryf.prog.cellsOf 30)) = some y1 := hf 1 _ rfl
    rw [cells51] at h0
    rw [cells30] at h1
    obtain ⟨la, ll, lc, m, e0, hb⟩ := bytes_of h0
    obtain ⟨q, tl, e1, ht⟩ := tl_of h1
    simp at e0 e1
    subst e0; subst e1
    obtain ⟨b, off, spot⟩ := a
    have c0 := hcell 0 (by omega)
    have c1 := hcell 1 (by omega)
    have hspot : spot = none := by simpa [Addr.add] using World.cell?_spot c0
    subst hspot
    rw [Addr.add_lit] at c0 c1
    exact ⟨_, some tl, m, rfl, .inr ⟨b, off, la, ll, lc, q, tl, rfl, c0, c1, hb, ht, rfl⟩⟩
end
end Go.Proofs.Qxb6605778aFmt
