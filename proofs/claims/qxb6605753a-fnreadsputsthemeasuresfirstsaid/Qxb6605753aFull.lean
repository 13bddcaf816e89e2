/-
  WHAT 'FnReadsPutsTheMeasuresFirst' ASKS OF WHAT A GATE READS; the callees' contracts in the form that its walk wants.
-/
import Derived.Test.Qxb6605753aGate
import Derived.Test.Qxb6605753aSize
namespace Go.Proofs.Qxb6605753a
open Go.RowKit Go.Deep

/-- A slice of names, its shape written out. -/
def Row2 (w : World) (ao : Option Addr) (n : Nat) (xs : List ByteArray) : Prop :=
  n = xs.length ∧ (n = 0 ∨ ∃ b off, ao = some ⟨b, off, none⟩ ∧ ∀ i, i < n → w.cell? ⟨b, off + i, none⟩ = some (.string (xs.getD i ByteArray.empty)))

theorem row2_of {w : World} {v : Value} {xs : List ByteArray} (h : StrRow w v xs) : ∃ ao n cap, v = .slice ao n cap ∧ Row2 w ao n xs := by
  obtain ⟨ao, cap, rfl, h⟩ := h
  refine ⟨ao, _, cap, rfl, rfl, ?_⟩
  rcases h with rfl | h
  · exact .inl rfl
  · exact .inr h
theorem Row2.row {w : World} {ao : Option Addr} {n : Nat} {xs : List ByteArray} (h : Row2 w ao n xs) (cap : Nat) : StrRow w (.slice ao n cap) xs := by
  obtain ⟨rfl, h⟩ := h
  refine ⟨ao, cap, rfl, ?_⟩
  rcases h with h | h
  · exact .inl (List.eq_nil_of_length_eq_zero h)
  · exact .inr h
theorem Row2.below {w w' : World} {ao : Option Addr} {n : Nat} {xs : List ByteArray} (h : Row2 w ao n xs) (k : Below w.heap.size w w') : Row2 w' ao n xs := by
  obtain ⟨hn, h⟩ := h
  refine ⟨hn, ?_⟩
  rcases h with h | ⟨b, off, hao, hc⟩
  · exact .inl h
  · exact .inr ⟨b, off, hao, fun i hi => (k.cell (p := ⟨b, off + i, none⟩) (cell_lt (hc i hi))).trans (hc i hi)⟩

theorem StrRow.drewN {w : World} {v : Value} {xs : List ByteArray} {n : Nat} (h : StrRow w v xs) : StrRow (w.drewN n) v xs := h

theorem gate2 (v r : Value) (ms seq : List ByteArray) (R : Nat → Prop) (w : World) (h : MRow w v ms) (hz : CPtr w R r seq) (hR : ∀ b, R b → b < w.heap.size) (hn : ms.length + seq.length ≤ 40000) :
    Calls Try.prog 14 #[v, r] w fun e w' => ∃ ao n cap, e = .returned (.slice ao n cap) ∧ Row2 w' ao n (Pl.addN [] (ms ++ seq)) ∧ Below w.heap.size w w' := by
  refine (gate_any v r ms seq R w h hz hR hn).mono ?_
  rintro e w' ⟨u, rfl, hr, hb⟩
  obtain ⟨ao, n, cap, rfl, h2⟩ := row2_of hr
  exact ⟨ao, n, cap, rfl, h2, hb⟩

/-- distinctNonEmpty, where the count is known. -/
theorem dne2 (v : Value) (xs : List ByteArray) (k : Nat) (w : World) (h : StrRow w v xs) (hn : xs.length ≤ 100000) (hk : k = (Pl.addN [] xs).length) :
    Calls Try.prog 17 #[v] w fun e w' => e = .returned (.int .i64 k) ∧ w = w' := by
  refine (dne_any v xs w h hn).mono ?_
  rintro e w' ⟨rfl, rfl⟩
  exact ⟨by rw [hk, (Pl.gath_all xs).len], rfl⟩

/-- firstIndex, where the index is known. -/
theorem first2 (v : Value) (xs : List ByteArray) (s : ByteArray) (k : Int) (w : World) (h : StrRow w v xs) (hn : xs.length ≤ 100000) (hk : Lib.idxOfS xs s = k) :
    Calls Try.prog 18 #[v, .string s] w fun e w' => e = .returned (.int .i64 k) ∧ w' = w := by
  refine (firstIndex_any v xs s w h hn).mono ?_
  rintro e w' ⟨rfl, rfl⟩
  exact ⟨by rw [hk], rfl⟩

/-- What stands in front. -/
theorem front_facts (ms c : List ByteArray) (nb : Nat) (hb : nb = (Pl.addN [] ms).length) : ∀ i, i < nb →
    Pl.emp ((Pl.addN [] ms).getD i ByteArray.empty) = false ∧ (Pl.addN [] (ms ++ c)).getD i ByteArray.empty = (Pl.addN [] ms).getD i ByteArray.empty ∧
    0 ≤ Lib.idxOfS ms ((Pl.addN [] ms).getD i ByteArray.empty) ∧ Lib.idxOfS (Pl.addN [] ms) ((Pl.addN [] ms).getD i ByteArray.empty) = i := by
  subst hb
  intro i hi
  have hG := Pl.gath_all ms
  have hok := hG.ok _ (Pl.getD_mem _ i hi)
  rw [List.take_length] at hok
  exact ⟨hok.1, Pl.front hi, Pl.idx_mem hok.2, Pl.own_place hG hi⟩

/-- What stands behind. -/
theorem back_facts (ms c : List ByteArray) (nb nf : Nat) (hb : nb = (Pl.addN [] ms).length) (hf : nf = (Pl.addN [] (ms ++ c)).length) : ∀ k, nb ≤ k → k < nf →
    Pl.emp ((Pl.addN [] (ms ++ c)).getD k ByteArray.empty) = false ∧ Lib.idxOfS ms ((Pl.addN [] (ms ++ c)).getD k ByteArray.empty) = -1 ∧
    Lib.idxOfS (Pl.addN [] (ms ++ c)) ((Pl.addN [] (ms ++ c)).getD k ByteArray.empty) = k ∧ 0 ≤ Lib.idxOfS (ms ++ c) ((Pl.addN [] (ms ++ c)).getD k ByteArray.empty) ∧
    ∀ j, k < j → j < nf → Lib.idxOfS (ms ++ c) ((Pl.addN [] (ms ++ c)).getD k ByteArray.empty) < Lib.idxOfS (ms ++ c) ((Pl.addN [] (ms ++ c)).getD j ByteArray.empty) := by
  subst hb; subst hf
  intro k hk hlt
  have hG := Pl.gath_all (ms ++ c)
  have hok := hG.ok _ (Pl.getD_mem _ k hlt)
  rw [List.take_length] at hok
  exact ⟨hok.1, Pl.past_own hlt hk, Pl.own_place hG hlt, Pl.idx_mem hok.2, fun j h1 h2 => Pl.up_at hG h1 h2⟩
end Go.Proofs.Qxb6605753a
