/-
  buildMeasures: each round's statement draws its order.
-/
import Derived.Test.Qxb6605753aMeas
import Derived.Deep.RegionHeld3
namespace Go.Proofs.Qxb6605753a
open Go.RowKit Go.Deep

theorem info67 : (Try.prog.info? 67).map (fun i => (i.zero, i.size, i.bytes)) = some (some (.agg #[.string ByteArray.empty, .pointer none, .pointer none]), 3, 32) := by kernel_rfl

theorem make_wide {P : Program} (t e : TypeId) (z : Value) (size bytes : Nat) (ht : P.underlying t = some (.slice e)) (hinfo : (P.info? e).map (fun i => (i.zero, i.size, i.bytes)) = some (some z, size, bytes))
    (n : Nat) (hbytes : bytes * n ≤ 281474976710656) (h63 : n ≤ 9223372036854775807) (w : World) :
    (Instr.makeSlice t (.int .i64 (n : Int)) (.int .i64 (n : Int))).run P w = .ok (.slice (some ⟨w.heap.size, 0, none⟩) n n) (w.alloc (.cells (madeCells z.cells (n * size)) e)) := by
  obtain ⟨i, hi, hz, hs, hb⟩ := info_parts hinfo
  have hb' : (i.bytes : Int) * (n : Int) ≤ 281474976710656 := by
    rw [hb]
    have h : ((bytes * n : Nat) : Int) ≤ 281474976710656 := by omega
    rwa [Int.natCast_mul] at h
  have hr := run_make (P := P) w t e i z ht hi hz .i64 .i64 n n (by omega) (Int.le_refl _) hb' (by omega)
  simp only [Int.toNat_natCast, hs] at hr
  exact hr

/-- What make lays is a row. -/
theorem rowIs_any (w : World) (z : Array Value) (m : Nat) (e : TypeId) : ∃ f, (w.alloc (.cells (madeCells z m) e)).rowIs w.heap.size e m f := by
  refine ⟨fun i => (madeCells z m).getD i undef, madeCells z m, blk_alloc_new _ _, size_madeCells _ _, fun i hi => ?_⟩
  have : i < (madeCells z m).size := by rw [size_madeCells]; exact hi
  simp [this]

set_option maxHeartbeats 400000 in
theorem set_mid (w : World) :
    Calls Try.prog 7 #[.pointer (some ⟨w.heap.size, 0, none⟩), .int .i64 1] ((w.alloc (.cells #[.bool false, .slice none 0 0, .bool false, .slice none 0 0] 31)).alloc (.cells #[.bool false, .slice none 0 0, .bool false, .slice none 0 0] 31)) fun e w' =>
      e = .returned (.pointer (some ⟨w.heap.size, 0, none⟩)) ∧ w' = (((w.alloc (.cells #[.bool false, .slice (some ⟨w.heap.size + 2, 0, none⟩) 1 1, .bool false, .slice (some ⟨w.heap.size + 3, 0, none⟩) 1 1] 31)).alloc (.cells #[.bool false, .slice none 0 0, .bool false, .slice none 0 0] 31)).alloc (.cells #[.int .u64 1] 59)).alloc (.cells #[.int .u64 1] 59) := by
  have hmk := mk1
  go_enter Try.func7, Try.ntmps7
  go_wp2
  go_ret
  exact ⟨rfl, rfl⟩

theorem s7a (w : World) :
    Calls Try.prog 7 #[.pointer (some ⟨w.heap.size, 0, none⟩), .int .i64 1] (w.alloc (.cells #[.bool false, .slice none 0 0, .bool false, .slice none 0 0] 31)).drew fun e w' =>
      e = .returned (.pointer (some ⟨w.heap.size, 0, none⟩)) ∧ Below w.heap.size w w' := by
  refine (set_any 1 (by omega) (by omega) w.drew).mono ?_
  rintro e w' ⟨he, hb, _⟩
  exact ⟨he, (show Below w.heap.size w w.drew from (Below.refl _ _).drew).trans hb⟩
theorem s7b (w : World) :
    Calls Try.prog 7 #[.pointer (some ⟨w.heap.size + 1, 0, none⟩), .int .i64 1] ((w.alloc (.cells #[.bool false, .slice none 0 0, .bool false, .slice none 0 0] 31)).alloc (.cells #[.bool false, .slice none 0 0, .bool false, .slice none 0 0] 31)).drew fun e w' =>
      e = .returned (.pointer (some ⟨w.heap.size + 1, 0, none⟩)) ∧ Below w.heap.size w w' := by
  have hs : (w.alloc (.cells #[.bool false, .slice none 0 0, .bool false, .slice none 0 0] 31)).heap.size = w.heap.size + 1 := nblk_alloc _ _
  have h := s7a (w.alloc (.cells #[.bool false, .slice none 0 0, .bool false, .slice none 0 0] 31))
  rw [hs] at h
  refine h.mono ?_
  rintro e w' ⟨he, hb⟩
  exact ⟨he, ((Below.refl _ _).alloc (Nat.le_refl _) _).trans (hb.mono (by omega))⟩
theorem s7c (w : World) :
    Calls Try.prog 7 #[.pointer (some ⟨w.heap.size, 0, none⟩), .int .i64 1] ((w.alloc (.cells #[.bool false, .slice none 0 0, .bool false, .slice none 0 0] 31)).alloc (.cells #[.bool false, .slice none 0 0, .bool false, .slice none 0 0] 31)).drew fun e w' =>
      e = .returned (.pointer (some ⟨w.heap.size, 0, none⟩)) ∧ Below w.heap.size w w' := by
  refine (set_mid w.drew).mono ?_
  rintro e w' ⟨he, rfl⟩
  have h0 : Below w.heap.size w w.drew := (Below.refl _ _).drew
  exact ⟨he, (((h0.alloc (Nat.le_refl _) _).alloc (by simp) _).alloc (by simp; omega) _).alloc (by simp; omega) _⟩

theorem m34 (s : ByteArray) (p q : Option Addr) (w : World) :
    Calls Try.prog 34 #[.string s, .pointer p, .pointer q] w fun e w' => e = .returned (.agg #[.string s, .pointer p, .pointer q]) ∧ w' = w.alloc (.cells #[.string s, .pointer p, .pointer q] 67) := by
  go_enter Try.func34, Try.ntmps34
  go_wp2
  exact bodyPost_ret (v := .agg #[.string s, .pointer p, .pointer q]) (by simp [results, Try.results34, go_sem]) rfl ⟨rfl, rfl⟩

/-- What the store wants of the measures' row behind the call. -/
theorem row_facts {w wr w1 : World} {n k b o : Nat} {x : Value} {f : Nat → Value} (hrow : wr.rowIs w.heap.size 67 (n * 3) f) (hb1 : Below wr.heap.size wr w1) (hlt : k < n) (h0 : wr.cell? ⟨b, o, none⟩ = some x) :
    (w1.cell? ⟨b, o, none⟩ = some x ∧ (∀ o1, (w1.alloc o1).cell? ⟨b, o, none⟩ = some x) ∧ ∀ o1 o2, ((w1.alloc o1).alloc o2).cell? ⟨b, o, none⟩ = some x) ∧
    (∀ o1, (w1.alloc o1).cell? ⟨w.heap.size, k * 3, none⟩ = some (f (k * 3)) ∧ (w1.alloc o1).cell? ⟨w.heap.size, k * 3 + 1, none⟩ = some (f (k * 3 + 1)) ∧ (w1.alloc o1).cell? ⟨w.heap.size, k * 3 + 2, none⟩ = some (f (k * 3 + 2))) ∧
    (∀ o1 i, (w1.alloc o1).frozen? ⟨w.heap.size, i, none⟩ = false) ∧
    (∀ o1 o2, ((w1.alloc o1).alloc o2).cell? ⟨w.heap.size, k * 3, none⟩ = some (f (k * 3)) ∧ ((w1.alloc o1).alloc o2).cell? ⟨w.heap.size, k * 3 + 1, none⟩ = some (f (k * 3 + 1)) ∧ ((w1.alloc o1).alloc o2).cell? ⟨w.heap.size, k * 3 + 2, none⟩ = some (f (k * 3 + 2))) ∧
    (∀ o1 o2 i, ((w1.alloc o1).alloc o2).frozen? ⟨w.heap.size, i, none⟩ = false) ∧ w1.rowIs w.heap.size 67 (n * 3) f := by
  have R1 : w1.rowIs w.heap.size 67 (n * 3) f := hrow.of_block (hb1.block _ hrow.lt)
  have hb : b < wr.heap.size := cell_lt h0
  have h1 : w1.cell? ⟨b, o, none⟩ = some x := (hb1.cell (p := ⟨b, o, none⟩) hb).trans h0
  have hs := hb1.size
  have h2 : ∀ o1, (w1.alloc o1).cell? ⟨b, o, none⟩ = some x := fun o1 => (World.cell?_alloc_lt (a := ⟨b, o, none⟩) _ _ (by show b < w1.heap.size; omega)).trans h1
  exact ⟨⟨h1, h2, fun o1 o2 => (World.cell?_alloc_lt (a := ⟨b, o, none⟩) _ _ (by show b < (w1.alloc o1).heap.size; simp; omega)).trans (h2 o1)⟩,
    fun o1 => ⟨(R1.alloc o1).cell (by omega), (R1.alloc o1).cell (by omega), (R1.alloc o1).cell (by omega)⟩, fun o1 i => (R1.alloc o1).frozen i,
    fun o1 o2 => ⟨((R1.alloc o1).alloc o2).cell (by omega), ((R1.alloc o1).alloc o2).cell (by omega), ((R1.alloc o1).alloc o2).cell (by omega)⟩, fun o1 o2 i => ((R1.alloc o1).alloc o2).frozen i, R1⟩

/-- One measure more. -/
theorem meas_step {w wz : World} {n k : Nat} {xs : List ByteArray} {x : ByteArray} {f : Nat → Value} (p q : Option Addr) (hb : Below w.heap.size w wz) (hrow : wz.rowIs w.heap.size 67 (n * 3) f)
    (hf : ∀ j, j < k → f (j * 3) = .string (xs.getD j ByteArray.empty) ∧ (∃ p, f (j * 3 + 1) = .pointer p) ∧ ∃ p, f (j * 3 + 2) = .pointer p) (hx : xs.getD k ByteArray.empty = x) :
    Below w.heap.size w (((wz.setCell ⟨w.heap.size, k * 3, none⟩ (.string x)).setCell ⟨w.heap.size, k * 3 + 1, none⟩ (.pointer p)).setCell ⟨w.heap.size, k * 3 + 2, none⟩ (.pointer q)) ∧
    ∃ g, (((wz.setCell ⟨w.heap.size, k * 3, none⟩ (.string x)).setCell ⟨w.heap.size, k * 3 + 1, none⟩ (.pointer p)).setCell ⟨w.heap.size, k * 3 + 2, none⟩ (.pointer q)).rowIs w.heap.size 67 (n * 3) g ∧
      ∀ j, j < k + 1 → g (j * 3) = .string (xs.getD j ByteArray.empty) ∧ (∃ p, g (j * 3 + 1) = .pointer p) ∧ ∃ p, g (j * 3 + 2) = .pointer p := by
  refine ⟨((hb.setCell (Nat.le_refl _) _).setCell (Nat.le_refl _) _).setCell (Nat.le_refl _) _, _, ((hrow.set _ _).set _ _).set _ _, fun j hj => ?_⟩
  have a1 : ¬ j * 3 = k * 3 + 2 := by omega
  have a2 : ¬ j * 3 = k * 3 + 1 := by omega
  have a3 : ¬ j * 3 + 1 = k * 3 + 2 := by omega
  have a4 : ¬ j * 3 + 1 = k * 3 := by omega
  have a5 : ¬ j * 3 + 2 = k * 3 + 1 := by omega
  have a6 : ¬ j * 3 + 2 = k * 3 := by omega
  by_cases e : j = k
  · subst e
    refine ⟨?_, ⟨p, ?_⟩, ⟨q, ?_⟩⟩
    · simp only [if_neg a1, if_neg a2, if_true, hx]
    · simp only [if_neg a3, if_true]
    · simp only [if_true]
  · have b1 : ¬ j * 3 = k * 3 := by omega
    have b2 : ¬ j * 3 + 1 = k * 3 + 1 := by omega
    have b3 : ¬ j * 3 + 2 = k * 3 + 2 := by omega
    simp only [if_neg a1, if_neg a2, if_neg a3, if_neg a4, if_neg a5, if_neg a6, if_neg b1, if_neg b2, if_neg b3]
    exact hf j (by omega)

def ptrOf : Value → Option Addr
  | .pointer p => p
  | _ => none

theorem mrow_of {w : World} {M n : Nat} {f : Nat → Value} {xs : List ByteArray} (hn : xs.length = n) (hrow : w.rowIs M 67 (n * 3) f)
    (hf : ∀ j, j < n → f (j * 3) = .string (xs.getD j ByteArray.empty) ∧ (∃ p, f (j * 3 + 1) = .pointer p) ∧ ∃ p, f (j * 3 + 2) = .pointer p) : MRow w (.slice (some ⟨M, 0, none⟩) n n) xs := by
  refine ⟨_, n, by rw [hn], .inr ⟨M, 0, rfl, fun i => ptrOf (f (i * 3 + 1)), fun i => ptrOf (f (i * 3 + 2)), fun i hi => ?_⟩⟩
  rw [hn] at hi
  obtain ⟨h0, ⟨p, h1⟩, ⟨q, h2⟩⟩ := hf i hi
  simp only [Nat.zero_add]
  refine ⟨(hrow.cell (by omega)).trans (by rw [h0]), (hrow.cell (by omega)).trans (by rw [h1]; rfl), (hrow.cell (by omega)).trans (by rw [h2]; rfl)⟩

theorem mk45_0 (w : World) : (Instr.makeSlice 45 (.int .i64 0) (.int .i64 0)).run Try.prog w = .ok (.slice (some ⟨w.heap.size, 0, none⟩) 0 0) (w.alloc (.cells #[] 67)) := by kernel_rfl

set_option maxHeartbeats 1000000 in
theorem build_any (v : Value) (xs : List ByteArray) (w : World) (h : StrRow w v xs) (hn : xs.length ≤ 100000) :
    Calls Try.prog 13 #[v] w fun e w' => ∃ u, e = .returned u ∧ MRow w' u xs ∧ Below w.heap.size w w' ∧ ∀ g, u.ownBlock = some g → w.heap.size ≤ g := by
  obtain ⟨ao, cap, rfl, h⟩ := h
  have hmk := make_wide (P := Try.prog) 45 67 _ 3 32 Try.underlying45 info67 xs.length (by omega) (by omega)
  rcases h with rfl | ⟨b, off, rfl, hc⟩
  · clear hmk
    have hmk := mk45_0
    go_enter Try.func13, Try.ntmps13
    go_wp2
    refine wp_loop_rounds 1 ?_
    rw [rounds_succ]
    go_wp2
    go_ret
    exact ⟨_, rfl, ⟨_, 0, rfl, .inl rfl⟩, (Below.refl _ _).alloc (Nat.le_refl _) _, fun g hg => by cases hg; exact Nat.le_refl _⟩
  · generalize hL0 : xs.length = n at *
    have HL : Hid (xs.length = n) := hL0
    clear hL0
    have HC : Hid (∀ i, i < n → w.cell? ⟨b, off + i, none⟩ = some (.string (xs.getD i ByteArray.empty))) := hc
    clear hc
    go_enter Try.func13, Try.ntmps13
    go_wp2
    clear hmk
    go_loopw [4] (fun i wr => ∃ k : Nat, k ≤ n ∧ i = .int .i64 k ∧ Below w.heap.size w wr ∧ ∃ f, wr.rowIs w.heap.size 67 (n * 3) f ∧ ∀ j, j < k → f (j * 3) = .string (xs.getD j ByteArray.empty) ∧ (∃ p, f (j * 3 + 1) = .pointer p) ∧ ∃ p, f (j * 3 + 2) = .pointer p) (fun i _ => n - (intOf i).toNat)
    case atStart =>
      obtain ⟨f, hf⟩ := rowIs_any w (Value.cells (.agg #[.string ByteArray.empty, .pointer none, .pointer none])) (n * 3) 67
      exact ⟨0, Nat.zero_le _, rfl, (Below.refl _ _).alloc (Nat.le_refl _) _, f, hf, fun j hj => by omega⟩
    case round =>
      obtain ⟨k, hk, rfl, hnx, f, hrow, hf⟩ := hrel
      have HF : Hid (∀ j, j < k → f (j * 3) = .string (xs.getD j ByteArray.empty) ∧ (∃ p, f (j * 3 + 1) = .pointer p) ∧ ∃ p, f (j * 3 + 2) = .pointer p) := hf
      clear hf
      by_cases hlt : k < n
      · have hb : b < w.heap.size := cell_lt (HC.out k hlt)
        have h0 := (hnx.cell (p := ⟨b, off + k, none⟩) hb).trans (HC.out k hlt)
        obtain ⟨x, hx⟩ : ∃ x, xs.getD k ByteArray.empty = x := ⟨_, rfl⟩
        rw [hx] at h0
        have HX : Hid (xs.getD k ByteArray.empty = x) := hx
        clear hx
        have hbr : b < wr.heap.size := Nat.lt_of_lt_of_le hb hnx.size
        have hA : ∀ o, (wr.alloc o).cell? ⟨b, off + k, none⟩ = some (.string x) := fun o => (World.cell?_alloc_lt (a := ⟨b, off + k, none⟩) _ _ hbr).trans h0
        have hAA : ∀ o o', ((wr.alloc o).alloc o').cell? ⟨b, off + k, none⟩ = some (.string x) := fun o o' => (World.cell?_alloc_lt (a := ⟨b, off + k, none⟩) _ _ (by simp; omega)).trans (hA o)
        have hneb : w.heap.size ≠ b := by omega
        go_wp2_with fail
        go_region_held3 (fun w' => w'.cell? ⟨b, off + k, none⟩ = some (.string x)) (simp [World.cell?_setCell_far, *])
          (first | (go_at_call 7; (first | with_reducible refine (s7a wr).mono ?_ | with_reducible refine (s7b wr).mono ?_ | with_reducible refine (s7c wr).mono ?_); rintro e w1 ⟨rfl, hb1⟩; obtain ⟨⟨g1, g2, g3⟩, q1, q2, q3, q4, hrow1⟩ := row_facts hrow hb1 hlt h0) | (go_at_call 34; with_reducible refine (m34 _ _ _ _).mono ?_; rintro e w2 ⟨rfl, rfl⟩))
        all_goals go_wp2_with fail
        all_goals
          have hbel : Below w.heap.size w w1 := hnx.trans (hb1.mono hnx.size)
          have hs1 : w.heap.size ≤ w1.heap.size := hbel.size
          go_roundw
          case rel => first
            | exact ⟨k + 1, by omega, by go_num, meas_step _ _ (hbel.alloc hs1 _) (hrow1.alloc _) HF.out HX.out⟩
            | exact ⟨k + 1, by omega, by go_num, meas_step _ _ ((hbel.alloc hs1 _).alloc (by simp; omega) _) ((hrow1.alloc _).alloc _) HF.out HX.out⟩
          case measure => simp [intOf]; omega
      · obtain rfl : n = k := by omega
        go_wp2_with fail
        go_ret
        exact ⟨.slice (some ⟨w.heap.size, 0, none⟩) n n, rfl, mrow_of HL.out hrow HF.out, hnx, fun g hg => by cases hg; exact Nat.le_refl _⟩
end Go.Proofs.Qxb6605753a
