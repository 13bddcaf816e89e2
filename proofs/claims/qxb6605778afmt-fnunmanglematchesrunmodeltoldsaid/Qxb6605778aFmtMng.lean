/-
  mangleModel COMPUTES Pl.mng.
-/
import Derived.Test.Qxb6605778aFmtUnm
import Derived.Maps.AppendAt
import Derived.Laws.IdiomStrings
namespace Go.Proofs.Qxb6605778aFmt
open Go.RowKit

/-- v is a slice of the call's own, from block 'base' on, of the bytes out. -/
def BB (base : Nat) (w : World) (v : Value) (out : List UInt8) : Prop := w.ownsRow base 5 1 v out.length (Lib.byteCells out)

theorem BB.below {base n : Nat} {w w1 : World} {v : Value} {xs : List Value} (h : w.ownsRow base 5 1 v n xs) (g : w.grownBy w1 v.ownBlock) (hb : base ≤ w.heap.size) : Below base w w1 :=
  ⟨g.os, g.tape, g.output, g.size, fun k hk => g.block k (by omega) (fun e => by have := (h.lt k e.symm).1; omega)⟩

theorem info5 : (Tryf.prog.info? 5).map (fun i => (i.zero, i.size, i.bytes)) = some (some (.int .u8 0), 1, 1) := by kernel_rfl

theorem conv_nil (w : World) : (convert 51 9 (.slice none 0 0)).run Tryf.prog w = .ok (.string ⟨#[]⟩) w := by kernel_rfl

theorem conv_any {base : Nat} {w : World} {v : Value} {out : List UInt8} (h : BB base w v out) : (convert 51 9 v).run Tryf.prog w = .ok (.string ⟨out.toArray⟩) w := by
  have hcells := fun g => World.ownsRow.cells (g := g) h
  rcases h.2 with ⟨rfl, hn⟩ | ⟨g, cap, cur, rfl, _⟩
  · rw [List.eq_nil_of_length_eq_zero hn]; exact conv_nil w
  · refine run_convert_bytes_back w 51 9 5 ⟨g, 0, none⟩ cap out Tryf.underlying51 Tryf.underlying5 Tryf.underlying9 fun j hj => ?_
    exact hcells g rfl j _ (by simp [Lib.byteCells, hj])

theorem make_bytes (c : Nat) (h : c ≤ 2097152) (w : World) : (Instr.makeSlice 51 (.int .i64 0) (.int .i64 (c : Int))).run Tryf.prog w =
    .ok (.slice (some ⟨w.heap.size, 0, none⟩) 0 c) (w.alloc (.cells (madeCells #[.int .u8 0] c) 5)) := by
  obtain ⟨i, hi, hz, hs, hb⟩ := info_parts info5
  have hr := run_make (P := Tryf.prog) w 51 5 i _ Tryf.underlying51 hi hz .i64 .i64 0 (c : Int) (by omega) (by omega) (by rw [hb]; omega) (by omega)
  simp only [Int.toNat_natCast, hs, Nat.mul_one] at hr
  exact hr

theorem made_bb (c : Nat) (h : c ≤ 2097152) (w : World) : BB w.heap.size (w.alloc (.cells (madeCells #[.int .u8 0] c) 5)) (.slice (some ⟨w.heap.size, 0, none⟩) 0 c) [] :=
  World.ownsRow_made (base := w.heap.size) (e := 5) (size := 1) w (madeCells #[.int .u8 0] c) c (Nat.le_refl _) (by unfold maxLen; omega) (by rw [size_madeCells]; omega)

theorem cell_two_new (w : World) (x y : Value) (t : TypeId) : ∀ j u, [x, y][j]? = some u → (w.alloc (.cells #[x, y] t)).cell? ((⟨w.heap.size, 0, none⟩ : Addr).add j) = some u := by
  intro j u hj
  match j, hj with
  | 0, hj =>
    simp at hj
    subst hj
    simp [Addr.add]
  | 1, hj =>
    simp at hj
    subst hj
    simp [Addr.add]

theorem BB.next {base n : Nat} {w : World} {v : Value} {out news : List UInt8} (h : w.ownsRow base 5 1 v (out.length + n) (Lib.byteCells out ++ Lib.byteCells news)) (hn : news.length = n) : BB base w v (out ++ news) := by
  unfold BB
  rw [Lib.byteCells_append, List.length_append, hn]
  exact h

theorem BB.step {base n m : Nat} {w w1 : World} {v v' : Value} {out news : List UInt8} {o : Obj} {w0 : World} (hown : BB base w v out) (hbel : Below base w0 w) (hb : base ≤ w.heap.size)
    (hown' : w1.ownsRow base 5 1 v' (n + m) (Lib.byteCells out ++ Lib.byteCells news)) (hn : n = out.length) (hm : news.length = m) (hgrow : (w.alloc o).grownBy w1 v.ownBlock) : BB base w1 v' (out ++ news) ∧ Below base w0 w1 := by
  subst hn
  refine ⟨BB.next hown' hm, (hbel.alloc hb _).trans (BB.below (World.ownsRow.alloc hown o) hgrow (by simp; omega))⟩

set_option maxRecDepth 100000 in
set_option maxHeartbeats 1000000 in
theorem mangle_any (s : ByteArray) (w : World) (hs : s.size ≤ 524288) :
    Calls Tryf.prog 10 #[.string s] w fun e w' => e = .returned (.string ⟨(Pl.mng s.data.toList).toArray⟩) ∧ Below w.heap.size w w' := by
  obtain ⟨i0, hi, hz0, hz1, hz2⟩ := info_parts info5
  have hmk := make_bytes (2 * s.size) (by omega) w
  have e2 : ((2 * s.size : Nat) : Int) = 2 * (s.size : Int) := by omega
  rw [e2] at hmk
  have hSZ : s.data.toList.length = s.size := by rw [Array.length_toList]; rfl
  have HML : Hid (∀ k, (Pl.mng (s.data.toList.take k)).length ≤ 2 * k) := fun k => by
    have h1 := Pl.mng_len (s.data.toList.take k)
    have h2 : (s.data.toList.take k).length ≤ k := List.length_take_le _ _
    omega
  have HAll : Hid (s.data.toList.take s.size = s.data.toList) := by
    show _ = _
    rw [← hSZ]; exact List.take_length
  have HSn : Hid (∀ k (h : k < s.size), Pl.mng (s.data.toList.take (k + 1)) = Pl.mng (s.data.toList.take k) ++ Pl.mng1 s[k]) := fun k h => by
    rw [List.take_succ_eq_append_getElem (by rw [hSZ]; exact h), Pl.mng_snoc]; rfl
  clear hSZ
  go_enter Tryf.func10, Tryf.ntmps10
  go_wp2_with fail
  clear hmk e2
  go_loopw [3, 4] (fun t i wr => ∃ k : Nat, k ≤ s.size ∧ i = .int .i64 k ∧ BB w.heap.size wr t (Pl.mng (s.data.toList.take k)) ∧ Below w.heap.size w wr) (fun _ i _ => s.size - (intOf i).toNat)
  case atStart => exact ⟨0, Nat.zero_le _, rfl, made_bb _ (by omega) w, (Below.refl _ _).alloc (Nat.le_refl _) _⟩
  case round =>
    obtain ⟨k, hk, rfl, hown, hbel⟩ := hrel
    have hsz' : w.heap.size ≤ wr.heap.size := hbel.size
    by_cases hlt : k < s.size
    · have hS := HSn.out k hlt
      have hL := HML.out k
      generalize Pl.mng (s.data.toList.take k) = out at *
      have HS : Hid (Pl.mng (s.data.toList.take (k + 1)) = out ++ Pl.mng1 s[k]) := hS
      clear hS
      have hlo : out.length = (Lib.byteCells out).length := (Lib.byteCells_length out).symm
      unfold BB at hown
      by_cases h64 : (s[k].toNat : Int) = 64
      · have HE : Hid (Pl.mng1 s[k] = [64, 64]) := by
          have e := u8_of _ 64 h64 (by decide)
          show _ = _
          unfold Pl.mng1
          exact if_pos e
        go_wp2_with (at_builtin; refine wpList_append_own_at _ rfl _ _ 51 rfl w.heap.size 5 i0 (.int .u8 0) 1 1 Tryf.underlying51 hi hz0 hz1 hz2 rfl (by decide) _ _ _ rfl (World.ownsRow.alloc hown _) ⟨wr.heap.size, 0, none⟩ 2 2 [.int .u8 64, .int .u8 64] rfl rfl (cell_two_new _ _ _ _) (by intro u hu; simp at hu; rcases hu with rfl | rfl <;> rfl) (by unfold maxLen; omega) (by omega) (by simp; omega) ?_; intro v' w1 hown' hgrow hnil hloc)
        go_roundw
        case rel =>
          obtain ⟨a1, a2⟩ := BB.step (news := [64, 64]) hown hbel hsz' hown' rfl rfl hgrow
          exact ⟨k + 1, by omega, by go_num, by rw [HS.out, HE.out]; exact a1, a2⟩
        case measure => simp [intOf]; omega
      · by_cases h47 : (s[k].toNat : Int) = 47
        · have HE : Hid (Pl.mng1 s[k] = [64, 95]) := by
            have e := u8_of _ 47 h47 (by decide)
            show _ = _
            unfold Pl.mng1
            exact (if_neg (u8_ne _ 64 h64 (by decide))).trans (if_pos e)
          go_wp2_with (at_builtin; refine wpList_append_own_at _ rfl _ _ 51 rfl w.heap.size 5 i0 (.int .u8 0) 1 1 Tryf.underlying51 hi hz0 hz1 hz2 rfl (by decide) _ _ _ rfl (World.ownsRow.alloc hown _) ⟨wr.heap.size, 0, none⟩ 2 2 [.int .u8 64, .int .u8 95] rfl rfl (cell_two_new _ _ _ _) (by intro u hu; simp at hu; rcases hu with rfl | rfl <;> rfl) (by unfold maxLen; omega) (by omega) (by simp; omega) ?_; intro v' w1 hown' hgrow hnil hloc)
          go_roundw
          case rel =>
            obtain ⟨a1, a2⟩ := BB.step (news := [64, 95]) hown hbel hsz' hown' rfl rfl hgrow
            exact ⟨k + 1, by omega, by go_num, by rw [HS.out, HE.out]; exact a1, a2⟩
          case measure => simp [intOf]; omega
        · have HE : Hid (Pl.mng1 s[k] = [s[k]]) := by
            show _ = _
            unfold Pl.mng1
            exact (if_neg (u8_ne _ 64 h64 (by decide))).trans (if_neg (u8_ne _ 47 h47 (by decide)))
          go_wp2_with (at_builtin; refine wpList_append_own_at _ rfl _ _ 51 rfl w.heap.size 5 i0 (.int .u8 0) 1 1 Tryf.underlying51 hi hz0 hz1 hz2 rfl (by decide) _ _ _ rfl (World.ownsRow.alloc hown _) ⟨wr.heap.size, 0, none⟩ 1 1 [.int .u8 s[k].toNat] rfl rfl (cell_one_new _ _ _) (by intro u hu; simp at hu; subst hu; rfl) (by unfold maxLen; omega) (by omega) (by simp; omega) ?_; intro v' w1 hown' hgrow hnil hloc)
          go_roundw
          case rel =>
            obtain ⟨a1, a2⟩ := BB.step (news := [s[k]]) hown hbel hsz' hown' rfl rfl hgrow
            exact ⟨k + 1, by omega, by go_num, by rw [HS.out, HE.out]; exact a1, a2⟩
          case measure => simp [intOf]; omega
    · obtain rfl : s.size = k := by omega
      rw [HAll.out] at hown
      have hcv := conv_any hown
      go_wp2_with fail
      go_ret
      exact ⟨rfl, hbel⟩
end Go.Proofs.Qxb6605778aFmt
