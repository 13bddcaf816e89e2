/-
  THE WALKS OVER SLICES OF NAMES THAT GROW: addNames.
-/
import Derived.Test.Qxb6605753aNames
import Derived.Maps.AppendAt
namespace Go.Proofs.Qxb6605753a
open Go.RowKit

/-- v is a slice of the call's own, from block 'base' on, of the names xs. -/
def Own (base : Nat) (w : World) (v : Value) (xs : List ByteArray) : Prop := w.ownsRow base 9 1 v xs.length (xs.map Value.string)

theorem Own.row {base : Nat} {w : World} {v : Value} {xs : List ByteArray} (h : Own base w v xs) : StrRow w v xs := by
  have hcells := fun g => World.ownsRow.cells (g := g) h
  rcases h.2 with ⟨rfl, hn⟩ | ⟨g, cap, cur, rfl, hb, hg, _⟩
  · exact ⟨none, 0, by rw [hn], .inl (List.eq_nil_of_length_eq_zero hn)⟩
  · refine ⟨_, cap, rfl, .inr ⟨g, 0, rfl, fun i hi => ?_⟩⟩
    have := hcells g rfl i (.string (xs.getD i ByteArray.empty)) (by simp [hi])
    rw [← this, Addr.add_lit]

/-- What a call does that appends names to v: v' and w' are left; of what was there v's own row alone may have turned; v' lies in that row or in a new block. -/
structure NStep (base : Nat) (w : World) (v : Value) (w' : World) (v' : Value) (ys : List ByteArray) : Prop where
  own : Own base w' v' ys
  grown : w.grownBy w' v.ownBlock
  loc : v'.ownBlock = v.ownBlock ∨ ∃ g, v'.ownBlock = some g ∧ w.heap.size ≤ g

theorem NStep.refl {base : Nat} {w : World} {v : Value} {xs : List ByteArray} (h : Own base w v xs) : NStep base w v w v xs := ⟨h, ⟨rfl, rfl, rfl, Nat.le_refl _, fun _ _ _ => rfl⟩, .inl rfl⟩

theorem NStep.trans {base : Nat} {w w1 w2 : World} {v v1 v2 : Value} {xs ys : List ByteArray} (h : NStep base w v w1 v1 xs) (k : NStep base w1 v1 w2 v2 ys) : NStep base w v w2 v2 ys := by
  obtain ⟨_, g1, l1⟩ := h
  obtain ⟨o2, g2, l2⟩ := k
  refine ⟨o2, ⟨g2.os.trans g1.os, g2.tape.trans g1.tape, g2.output.trans g1.output, Nat.le_trans g1.size g2.size, fun i hi hne => ?_⟩, ?_⟩
  · refine (g2.block i (Nat.lt_of_lt_of_le hi g1.size) fun e => ?_).trans (g1.block i hi hne)
    rcases l1 with l1 | ⟨g, l1, hg⟩
    · exact hne (e.trans l1)
    · rw [l1] at e; cases e; omega
  · rcases l2 with l2 | ⟨g, l2, hg⟩
    · rcases l1 with l1 | ⟨g, l1, hg⟩
      · exact .inl (l2.trans l1)
      · exact .inr ⟨g, l2.trans l1, hg⟩
    · exact .inr ⟨g, l2, Nat.le_trans g1.size hg⟩

theorem NStep.alloc {base : Nat} {w w1 : World} {v v1 : Value} {xs : List ByteArray} (h : NStep base w v w1 v1 xs) (o : Obj) : NStep base w v (w1.alloc o) v1 xs :=
  h.trans ⟨World.ownsRow.alloc h.own o, World.grownBy_alloc _ _ _, .inl rfl⟩

/-- A block laid ahead of the step. -/
theorem NStep.ahead {base : Nat} {w w1 : World} {v v1 : Value} {xs : List ByteArray} {o : Obj} (h : NStep base (w.alloc o) v w1 v1 xs) : NStep base w v w1 v1 xs := by
  obtain ⟨o1, g1, l1⟩ := h
  refine ⟨o1, ⟨g1.os, g1.tape, g1.output, Nat.le_trans (by simp) g1.size, fun i hi hne => (g1.block i (by simp; omega) hne).trans (Below.heap_alloc _ _ _ hi)⟩, ?_⟩
  rcases l1 with l1 | ⟨g, l1, hg⟩
  · exact .inl l1
  · exact .inr ⟨g, l1, Nat.le_trans (by simp) hg⟩

theorem NStep.below {base : Nat} {w w1 : World} {v v1 : Value} {xs : List ByteArray} (h : NStep base w v w1 v1 xs) (B : Nat) (hB : B ≤ w.heap.size) (hv : ∀ g, v.ownBlock = some g → B ≤ g) : Below B w w1 :=
  ⟨h.grown.os, h.grown.tape, h.grown.output, h.grown.size, fun k hk => h.grown.block k (by omega) (fun e => by have := hv k e.symm; omega)⟩

/-- A cell that is none of v's own row. -/
theorem NStep.cell {base : Nat} {w w1 : World} {v v1 : Value} {xs : List ByteArray} (h : NStep base w v w1 v1 xs) {b o : Nat} {x : Value} (hx : w.cell? ⟨b, o, none⟩ = some x) (hne : some b ≠ v.ownBlock) : w1.cell? ⟨b, o, none⟩ = some x :=
  h.grown.cell hx hne

theorem info9 : (Try.prog.info? 9).map (fun i => (i.zero, i.size, i.bytes)) = some (some (.string ByteArray.empty), 1, 16) := by kernel_rfl

theorem map_str_snoc (xs : List ByteArray) (x : ByteArray) : xs.map Value.string ++ [Value.string x] = (xs ++ [x]).map Value.string := by simp

set_option maxHeartbeats 400000 in
theorem addNames_any (base : Nat) (v u : Value) (xs ms : List ByteArray) (w : World) (h : Own base w v xs) (h2 : StrRow w u ms) (hne : ∀ b, u.ownBlock = some b → some b ≠ v.ownBlock)
    (hb : base ≤ w.heap.size) (hn : xs.length + ms.length ≤ 100000) :
    Calls Try.prog 41 #[v, u] w fun e w' => ∃ v', e = .returned v' ∧ NStep base w v w' v' (Pl.addN xs ms) := by
  obtain ⟨i0, hi, hz0, hz1, hz2⟩ := info_parts info9
  obtain ⟨ao, cap, rfl, h2⟩ := h2
  rcases h2 with rfl | ⟨b, off, rfl, hc⟩
  · go_enter Try.func41, Try.ntmps41
    go_wp2
    refine wp_loop_rounds 1 ?_
    rw [rounds_succ]
    go_wp2
    go_ret
    exact ⟨_, rfl, NStep.refl h⟩
  · have hbb : some b ≠ v.ownBlock := hne b rfl
    have HLe : Hid (∀ k, (Pl.addN xs (ms.take k)).length ≤ xs.length + k) := fun k => by
      have := Pl.addN_len xs (ms.take k)
      have h3 := List.length_take_le k ms
      omega
    have HSn : Hid (∀ k, k < ms.length → Pl.addN xs (ms.take (k + 1)) = Pl.add1 (Pl.addN xs (ms.take k)) (ms.getD k ByteArray.empty)) := fun k hk => by
      rw [Pl.take_snoc ms k hk, Pl.addN_snoc]
    have HAll : Hid (ms.take ms.length = ms) := List.take_length
    generalize ms.length = n at *
    have HC : Hid (∀ i, i < n → w.cell? ⟨b, off + i, none⟩ = some (.string (ms.getD i ByteArray.empty))) := hc
    clear hc hne
    go_enter Try.func41, Try.ntmps41
    go_wp2
    go_loopw [0, 9] (fun t i wr => ∃ k : Nat, k ≤ n ∧ i = .int .i64 k ∧ NStep base w v wr t (Pl.addN xs (ms.take k))) (fun _ i _ => n - (intOf i).toNat)
    case atStart => exact ⟨0, Nat.zero_le _, rfl, NStep.refl h⟩
    case round =>
      obtain ⟨k, hk, rfl, hst⟩ := hrel
      by_cases hlt : k < n
      · have hck := hst.cell (HC.out k hlt) hbb
        have HS : Hid (Pl.addN xs (ms.take (k + 1)) = Pl.add1 (Pl.addN xs (ms.take k)) (ms.getD k ByteArray.empty)) := HSn.out k hlt
        have hle := HLe.out k
        generalize Pl.addN xs (ms.take k) = G at *
        obtain ⟨x, hx⟩ : ∃ x, ms.getD k ByteArray.empty = x := ⟨_, rfl⟩
        rw [hx] at hck HS
        clear hx
        have hsz := hst.grown.size
        cases hb : x.toList.isEmpty with
        | true =>
          have HE : Hid (Pl.add1 G x = G) := if_neg (fun h => by unfold Pl.emp at h; rw [hb] at h; cases h.1)
          go_wp2_with fail
          go_roundw
          case rel => exact ⟨k + 1, by omega, by go_num, by rw [HS.out, HE.out]; exact hst⟩
          case measure => simp [intOf]; omega
        | false =>
          by_cases hin : 0 ≤ Lib.idxOfS G x
          · have HE : Hid (Pl.add1 G x = G) := if_neg (fun h => by have := h.2; omega)
            have hd : decide (0 ≤ Lib.idxOfS G x) = true := decide_eq_true hin
            clear hin
            go_wp2_with fail
            refine (contains_any u0 G x _ hst.own.row (by omega)).mono ?_
            rintro e w' ⟨rfl, hw'⟩
            obtain rfl : wr = w' := hw'.symm
            go_wp2_with fail
            go_roundw
            case rel => exact ⟨k + 1, by omega, by go_num, by rw [HS.out, HE.out]; exact hst⟩
            case measure => simp [intOf]; omega
          · have HE : Hid (Pl.add1 G x = G ++ [x]) := if_pos ⟨hb, by omega⟩
            have hd : decide (0 ≤ Lib.idxOfS G x) = false := decide_eq_false hin
            clear hin
            go_wp2_with fail
            refine (contains_any u0 G x _ hst.own.row (by omega)).mono ?_
            rintro e w' ⟨rfl, hw'⟩
            obtain rfl : wr = w' := hw'.symm
            go_wp2_with (at_builtin; refine wpList_append_own_at _ rfl _ _ 38 rfl base 9 i0 (.string ByteArray.empty) 1 16 Try.underlying38 hi hz0 hz1 hz2 rfl (by decide) _ _ _ rfl (World.ownsRow.alloc hst.own _) ⟨wr.heap.size, 0, none⟩ 1 1 [.string x] rfl rfl (cell_one_new _ _ _) (by intro u hu; simp at hu; subst hu; rfl) (by unfold maxLen; omega) (by omega) (by simp; omega) ?_; intro v' w1 hown' hgrow hnil hloc)
            go_roundw
            case rel =>
              refine ⟨k + 1, by omega, by go_num, ?_⟩
              rw [HS.out, HE.out]
              refine (hst.alloc _).trans ⟨?_, hgrow, hloc.elim .inl fun h => .inr ⟨_, h, Nat.le_refl _⟩⟩
              show World.ownsRow _ _ _ _ _ _ _
              rw [← map_str_snoc, List.length_append]
              exact hown'
            case measure => simp [intOf]; omega
      · obtain rfl : n = k := by omega
        go_wp2_with fail
        go_ret
        exact ⟨_, rfl, by rw [HAll.out] at hst; exact hst⟩
end Go.Proofs.Qxb6605753a
