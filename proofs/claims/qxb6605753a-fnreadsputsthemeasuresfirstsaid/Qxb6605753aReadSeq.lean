/-
  readSeq.
-/
import Derived.Test.Qxb6605753aSeq
namespace Go.Proofs.Qxb6605753a
open Go.RowKit Go.Deep

theorem make_cap (n N : Nat) (h : n + 2 * N ≤ 100000) (w : World) : (Instr.makeSlice 38 (.int .i64 0) (.int .i64 ((n : Int) + 2 * (N : Int)))).run Try.prog w =
    .ok (.slice (some ⟨w.heap.size, 0, none⟩) 0 (n + 2 * N)) (w.alloc (.cells (madeCells #[.string ByteArray.empty] (n + 2 * N)) 9)) := by
  obtain ⟨i, hi, hz, hs, hb⟩ := info_parts info9
  have hr := run_make (P := Try.prog) w 38 9 i _ Try.underlying38 hi hz .i64 .i64 0 ((n : Int) + 2 * (N : Int)) (by omega) (by omega) (by rw [hb]; omega) (by omega)
  have e1 : ((n : Int) + 2 * (N : Int)).toNat = n + 2 * N := by omega
  simp only [e1, hs, Nat.mul_one] at hr
  exact hr

/-- *require: nil, or a pointer to a tree. -/
def ZPtr (w : World) (R : Nat → Prop) (v : Value) (seq : List ByteArray) (N : Nat) : Prop :=
  (v = .pointer none ∧ seq = [] ∧ N = 0) ∨ ∃ b o d u0 u1 u2 u3, v = .pointer (some ⟨b, o, none⟩) ∧ R b ∧ w.cell? ⟨b, o, none⟩ = some u0 ∧ w.cell? ⟨b, o + 1, none⟩ = some u1 ∧ w.cell? ⟨b, o + 2, none⟩ = some u2 ∧ w.cell? ⟨b, o + 3, none⟩ = some u3 ∧ ZT w R d u0 u1 u2 u3 seq N

theorem ZPtr.kept {w w' : World} {R : Nat → Prop} {v : Value} {seq : List ByteArray} {N : Nat} (h : ZPtr w R v seq N) (k : Kept R w w') : ZPtr w' R v seq N := by
  rcases h with h | ⟨b, o, d, u0, u1, u2, u3, hv, hb, c0, c1, c2, c3, ht⟩
  · exact .inl h
  · exact .inr ⟨b, o, d, u0, u1, u2, u3, hv, hb, k _ _ _ hb c0, k _ _ _ hb c1, k _ _ _ hb c2, k _ _ _ hb c3, ht.kept k⟩

set_option maxHeartbeats 1000000 in
set_option maxRecDepth 100000 in
theorem readSeq_a (b off n cap : Nat) (ms : List ByteArray) (w : World) (HL : Hid (ms.length = n)) (hc : ∀ k, k < n → w.cell? ⟨b, off + k, none⟩ = some (.string (ms.getD k ByteArray.empty))) (hn : n ≤ 4096) :
    Calls Try.prog 16 #[.slice (some ⟨b, off, none⟩) n cap, .pointer none, .int .i64 0] w fun e w' => ∃ u, e = .returned u ∧ StrRow w' u (ms ++ []) ∧ Below w.heap.size w w' := by
  obtain ⟨i0, hi, hz0, hz1, hz2⟩ := info_parts info9
  have HAll : Hid (ms.take n = ms) := by
    show _ = _
    rw [← HL.out]; exact List.take_length
  have HC : Hid (∀ k, k < n → w.cell? ⟨b, off + k, none⟩ = some (.string (ms.getD k ByteArray.empty))) := hc
  clear hc
  have hmk := make_cap n 0 (by omega)
  simp only [Int.ofNat_zero, Int.mul_zero, Int.add_zero, Nat.mul_zero, Nat.add_zero] at hmk
  try simp only [Int.natCast_zero, Int.mul_zero, Int.add_zero] at hmk
  go_enter Try.func16, Try.ntmps16
  go_wp2_with fail
  clear hmk
  go_loopw [7, 8] (fun t i wr => ∃ k : Nat, k ≤ n ∧ i = .int .i64 k ∧ NStep w.heap.size (w.alloc (.cells (madeCells #[.string ByteArray.empty] (n)) 9)) (.slice (some ⟨w.heap.size, 0, none⟩) 0 (n)) wr t (ms.take k)) (fun _ i _ => n - (intOf i).toNat)
  case atStart => exact ⟨0, Nat.zero_le _, rfl, (by have := World.ownsRow_made (base := w.heap.size) (e := 9) (size := 1) w (madeCells #[.string ByteArray.empty] (n)) (n) (Nat.le_refl _) (by unfold maxLen; omega) (by rw [size_madeCells]; omega); exact NStep.refl this)⟩
  case round =>
    obtain ⟨k, hk, rfl, hst⟩ := hrel
    have hbel : Below w.heap.size w wr := ((Below.refl _ _).alloc (Nat.le_refl _) _).trans (hst.below w.heap.size (by simp) (fun g hg => by cases hg; exact Nat.le_refl _))
    by_cases hlt : k < n
    · have hck0 := HC.out k hlt
      have hck := (hbel.cell (p := ⟨b, off + k, none⟩) (cell_lt hck0)).trans hck0
      clear hck0
      obtain ⟨x, hx⟩ : ∃ x, ms.getD k ByteArray.empty = x := ⟨_, rfl⟩
      have HSn : Hid (ms.take (k + 1) = ms.take k ++ [x]) := by
        show _ = _
        rw [← hx]; exact Pl.take_snoc ms k (by rw [HL.out]; exact hlt)
      rw [hx] at hck
      have hGl : (ms.take k).length ≤ k := List.length_take_le _ _
      generalize ms.take k = G at *
      clear hx
      have hsz' : w.heap.size ≤ wr.heap.size := hbel.size
      go_wp2_with (at_builtin; refine wpList_append_own_at _ rfl _ _ 38 rfl w.heap.size 9 i0 (.string ByteArray.empty) 1 16 Try.underlying38 hi hz0 hz1 hz2 rfl (by decide) _ _ _ rfl (World.ownsRow.alloc hst.own _) ⟨wr.heap.size, 0, none⟩ 1 1 [.string x] rfl rfl (cell_one_new _ _ _) (by intro u hu; simp at hu; subst hu; rfl) (by unfold maxLen; omega) (by omega) (by simp; omega) ?_; intro v' w1 hown' hgrow hnil hloc)
      go_roundw
      case rel =>
        refine ⟨k + 1, by omega, by go_num, ?_⟩
        rw [HSn.out]
        refine (hst.alloc _).trans ⟨?_, hgrow, hloc.elim .inl fun h => .inr ⟨_, h, Nat.le_refl _⟩⟩
        show World.ownsRow _ _ _ _ _ _ _
        rw [← map_str_snoc, List.length_append]
        exact hown'
      case measure => simp [intOf]; omega
    · obtain rfl : n = k := by omega
      rw [HAll.out] at hst
      go_wp2_with fail
      go_ret
      exact ⟨_, rfl, by rw [List.append_nil]; exact hst.own.row, hbel⟩

set_option maxHeartbeats 1000000 in
set_option maxRecDepth 100000 in
theorem readSeq_b (b off n cap : Nat) (ms seq : List ByteArray) (N p o d : Nat) (z0 z1 z2 z3 : Value) (R : Nat → Prop) (w : World) (HL : Hid (ms.length = n)) (hc : ∀ k, k < n → w.cell? ⟨b, off + k, none⟩ = some (.string (ms.getD k ByteArray.empty))) (hn : n ≤ 4096) (hN : N ≤ 4096) (HR : Hid (∀ b, R b → b < w.heap.size)) (hp : R p) (c0 : w.cell? ⟨p, o, none⟩ = some z0) (c1 : w.cell? ⟨p, o + 1, none⟩ = some z1) (c2 : w.cell? ⟨p, o + 2, none⟩ = some z2) (c3 : w.cell? ⟨p, o + 3, none⟩ = some z3) (ht : ZT w R d z0 z1 z2 z3 seq N) :
    Calls Try.prog 16 #[.slice (some ⟨b, off, none⟩) n cap, .pointer (some ⟨p, o, none⟩), .int .i64 N] w fun e w' => ∃ u, e = .returned u ∧ StrRow w' u (ms ++ seq) ∧ Below w.heap.size w w' := by
  obtain ⟨i0, hi, hz0, hz1, hz2⟩ := info_parts info9
  have HAll : Hid (ms.take n = ms) := by
    show _ = _
    rw [← HL.out]; exact List.take_length
  have HC : Hid (∀ k, k < n → w.cell? ⟨b, off + k, none⟩ = some (.string (ms.getD k ByteArray.empty))) := hc
  clear hc
  have hmk := make_cap n N (by omega)
  have HP : Hid (R p) := hp
  have CC : Hid (w.cell? ⟨p, o, none⟩ = some z0 ∧ w.cell? ⟨p, o + 1, none⟩ = some z1 ∧ w.cell? ⟨p, o + 2, none⟩ = some z2 ∧ w.cell? ⟨p, o + 3, none⟩ = some z3) := ⟨c0, c1, c2, c3⟩
  have HT : Hid (ZT w R N z0 z1 z2 z3 seq N) := ht.levels
  have HNm : Hid (seq.length = 2 * N) := ht.names
  clear hp c0 c1 c2 c3 ht
  go_enter Try.func16, Try.ntmps16
  go_wp2_with fail
  clear hmk
  go_loopw [7, 8] (fun t i wr => ∃ k : Nat, k ≤ n ∧ i = .int .i64 k ∧ NStep w.heap.size (w.alloc (.cells (madeCells #[.string ByteArray.empty] (n + 2 * N)) 9)) (.slice (some ⟨w.heap.size, 0, none⟩) 0 (n + 2 * N)) wr t (ms.take k)) (fun _ i _ => n - (intOf i).toNat)
  case atStart => exact ⟨0, Nat.zero_le _, rfl, (by have := World.ownsRow_made (base := w.heap.size) (e := 9) (size := 1) w (madeCells #[.string ByteArray.empty] (n + 2 * N)) (n + 2 * N) (Nat.le_refl _) (by unfold maxLen; omega) (by rw [size_madeCells]; omega); exact NStep.refl this)⟩
  case round =>
    obtain ⟨k, hk, rfl, hst⟩ := hrel
    have hbel : Below w.heap.size w wr := ((Below.refl _ _).alloc (Nat.le_refl _) _).trans (hst.below w.heap.size (by simp) (fun g hg => by cases hg; exact Nat.le_refl _))
    by_cases hlt : k < n
    · have hck0 := HC.out k hlt
      have hck := (hbel.cell (p := ⟨b, off + k, none⟩) (cell_lt hck0)).trans hck0
      clear hck0
      obtain ⟨x, hx⟩ : ∃ x, ms.getD k ByteArray.empty = x := ⟨_, rfl⟩
      have HSn : Hid (ms.take (k + 1) = ms.take k ++ [x]) := by
        show _ = _
        rw [← hx]; exact Pl.take_snoc ms k (by rw [HL.out]; exact hlt)
      rw [hx] at hck
      have hGl : (ms.take k).length ≤ k := List.length_take_le _ _
      generalize ms.take k = G at *
      clear hx
      have hsz' : w.heap.size ≤ wr.heap.size := hbel.size
      go_wp2_with (at_builtin; refine wpList_append_own_at _ rfl _ _ 38 rfl w.heap.size 9 i0 (.string ByteArray.empty) 1 16 Try.underlying38 hi hz0 hz1 hz2 rfl (by decide) _ _ _ rfl (World.ownsRow.alloc hst.own _) ⟨wr.heap.size, 0, none⟩ 1 1 [.string x] rfl rfl (cell_one_new _ _ _) (by intro u hu; simp at hu; subst hu; rfl) (by unfold maxLen; omega) (by omega) (by simp; omega) ?_; intro v' w1 hown' hgrow hnil hloc)
      go_roundw
      case rel =>
        refine ⟨k + 1, by omega, by go_num, ?_⟩
        rw [HSn.out]
        refine (hst.alloc _).trans ⟨?_, hgrow, hloc.elim .inl fun h => .inr ⟨_, h, Nat.le_refl _⟩⟩
        show World.ownsRow _ _ _ _ _ _ _
        rw [← map_str_snoc, List.length_append]
        exact hown'
      case measure => simp [intOf]; omega
    · obtain rfl : n = k := by omega
      rw [HAll.out] at hst
      have hpw := HR.out p HP.out
      have e0 := (hbel.cell (p := ⟨p, o, none⟩) hpw).trans CC.out.1
      have e1 := (hbel.cell (p := ⟨p, o + 1, none⟩) hpw).trans CC.out.2.1
      have e2 := (hbel.cell (p := ⟨p, o + 2, none⟩) hpw).trans CC.out.2.2.1
      have e3 := (hbel.cell (p := ⟨p, o + 3, none⟩) hpw).trans CC.out.2.2.2
      go_wp2_with fail
      refine (condSeq_any R w.heap.size N wr z0 z1 z2 z3 u7 seq ms N 4097 (HT.out.kept (Kept.below hbel HR.out)) hst.own (fun b hb => ⟨Nat.lt_of_lt_of_le (HR.out b hb) hbel.size, fun e => ?_⟩) hbel.size (by rw [HNm.out, HL.out]; omega) (by omega) (by omega)).mono ?_
      · have := (World.ownsRow.lt hst.own b e.symm).1
        have := HR.out b hb
        omega
      rintro e w1 ⟨v', rfl, hst3⟩
      have hbel3 : Below w.heap.size w w1 := hbel.trans (hst3.below w.heap.size hbel.size (fun g hg => (World.ownsRow.lt hst.own g hg).1))
      go_wp2_with fail
      go_ret
      exact ⟨_, rfl, hst3.own.row, hbel3⟩

set_option maxHeartbeats 1000000 in
theorem readSeq_c (ao : Option Addr) (cap : Nat) (w : World) :
    Calls Try.prog 16 #[.slice ao 0 cap, .pointer none, .int .i64 0] w fun e w' => ∃ u, e = .returned u ∧ StrRow w' u [] ∧ Below w.heap.size w w' := by
  have hmk := mk38_0
  go_enter Try.func16, Try.ntmps16
  go_wp2_with fail
  refine wp_loop_rounds 1 ?_
  rw [rounds_succ]
  go_wp2_with fail
  go_ret
  exact ⟨_, rfl, ⟨_, 0, rfl, .inl rfl⟩, (Below.refl _ _).alloc (Nat.le_refl _) _⟩

set_option maxHeartbeats 1000000 in
theorem readSeq_d (ao : Option Addr) (cap : Nat) (seq : List ByteArray) (N p o d : Nat) (z0 z1 z2 z3 : Value) (R : Nat → Prop) (w : World) (hN : N ≤ 4096) (HR : Hid (∀ b, R b → b < w.heap.size)) (hp : R p)
    (c0 : w.cell? ⟨p, o, none⟩ = some z0) (c1 : w.cell? ⟨p, o + 1, none⟩ = some z1) (c2 : w.cell? ⟨p, o + 2, none⟩ = some z2) (c3 : w.cell? ⟨p, o + 3, none⟩ = some z3) (ht : ZT w R d z0 z1 z2 z3 seq N) :
    Calls Try.prog 16 #[.slice ao 0 cap, .pointer (some ⟨p, o, none⟩), .int .i64 N] w fun e w' => ∃ u, e = .returned u ∧ StrRow w' u seq ∧ Below w.heap.size w w' := by
  have hmk : ∀ w : World, (Instr.makeSlice 38 (.int .i64 0) (.int .i64 (2 * (N : Int)))).run Try.prog w = .ok (.slice (some ⟨w.heap.size, 0, none⟩) 0 (2 * N)) (w.alloc (.cells (madeCells #[.string ByteArray.empty] (2 * N)) 9)) := fun w => by
    have := make_cap 0 N (by omega) w
    simpa using this
  have HT : Hid (ZT w R N z0 z1 z2 z3 seq N) := ht.levels
  have HNm : Hid (seq.length = 2 * N) := ht.names
  have HP : Hid (R p) := hp
  have hpw := HR.out p hp
  have e0 : ∀ o', (w.alloc o').cell? ⟨p, o, none⟩ = some z0 := fun o' => (World.cell?_alloc_lt (a := ⟨p, o, none⟩) _ _ hpw).trans c0
  have e1 : ∀ o', (w.alloc o').cell? ⟨p, o + 1, none⟩ = some z1 := fun o' => (World.cell?_alloc_lt (a := ⟨p, o + 1, none⟩) _ _ hpw).trans c1
  have e2 : ∀ o', (w.alloc o').cell? ⟨p, o + 2, none⟩ = some z2 := fun o' => (World.cell?_alloc_lt (a := ⟨p, o + 2, none⟩) _ _ hpw).trans c2
  have e3 : ∀ o', (w.alloc o').cell? ⟨p, o + 3, none⟩ = some z3 := fun o' => (World.cell?_alloc_lt (a := ⟨p, o + 3, none⟩) _ _ hpw).trans c3
  clear c0 c1 c2 c3 ht hp hpw
  have hown : Hid (Own w.heap.size (w.alloc (.cells (madeCells #[.string ByteArray.empty] (2 * N)) 9)) (.slice (some ⟨w.heap.size, 0, none⟩) 0 (2 * N)) []) := World.ownsRow_made (base := w.heap.size) (e := 9) (size := 1) w (madeCells #[.string ByteArray.empty] (2 * N)) (2 * N) (Nat.le_refl _) (by unfold maxLen; omega) (by rw [size_madeCells]; omega)
  have hbel : Hid (Below w.heap.size w (w.alloc (.cells (madeCells #[.string ByteArray.empty] (2 * N)) 9))) := (Below.refl _ _).alloc (Nat.le_refl _) _
  go_enter Try.func16, Try.ntmps16
  go_wp2_with fail
  refine wp_loop_rounds 1 ?_
  rw [rounds_succ]
  go_wp2_with fail
  refine (condSeq_any R w.heap.size N _ z0 z1 z2 z3 (.slice (some ⟨w.heap.size, 0, none⟩) 0 (2 * N)) seq [] N 4097 (HT.out.kept (Kept.below hbel.out HR.out)) hown.out (fun b hb => ⟨Nat.lt_of_lt_of_le (HR.out b hb) hbel.out.size, fun e => ?_⟩) hbel.out.size (by rw [HNm.out]; simp; omega) (by omega) (by omega)).mono ?_
  · cases e
    have := HR.out _ hb
    exact absurd this (Nat.lt_irrefl _)
  rintro e w1 ⟨v', rfl, hst3⟩
  have hbel3 : Below w.heap.size w w1 := hbel.out.trans (hst3.below w.heap.size hbel.out.size (fun g hg => by cases hg; exact Nat.le_refl _))
  go_wp2_with fail
  go_ret
  exact ⟨_, rfl, hst3.own.row, hbel3⟩

/-- readSeq. -/
theorem readSeq_any (v r : Value) (ms seq : List ByteArray) (N : Nat) (R : Nat → Prop) (w : World) (h : StrRow w v ms) (hz : ZPtr w R r seq N) (hR : ∀ b, R b → b < w.heap.size) (hn : ms.length ≤ 4096) (hN : N ≤ 4096) :
    Calls Try.prog 16 #[v, r, .int .i64 N] w fun e w' => ∃ u, e = .returned u ∧ StrRow w' u (ms ++ seq) ∧ Below w.heap.size w w' := by
  obtain ⟨ao, cap, rfl, h⟩ := h
  rcases h with rfl | ⟨b, off, rfl, hc⟩
  · rcases hz with ⟨rfl, rfl, rfl⟩ | ⟨p, o, d, z0, z1, z2, z3, rfl, hb, c0, c1, c2, c3, ht⟩
    · exact readSeq_c ao cap w
    · exact readSeq_d ao cap seq N p o d z0 z1 z2 z3 R w hN hR hb c0 c1 c2 c3 ht
  · rcases hz with ⟨rfl, rfl, rfl⟩ | ⟨p, o, d, z0, z1, z2, z3, rfl, hb, c0, c1, c2, c3, ht⟩
    · exact readSeq_a b off ms.length cap ms w (show ms.length = ms.length from rfl) hc hn
    · exact readSeq_b b off ms.length cap ms seq N p o d z0 z1 z2 z3 R w (show ms.length = ms.length from rfl) hc hn hN hR hb c0 c1 c2 c3 ht
end Go.Proofs.Qxb6605753a
