/-
  cloneKeys.
-/
import Derived.Test.Qxb6605601aIntern
namespace Go.Proofs.Qxb6605601a
open Go.RowKit Go.Maps Go.Deep

/-- A slice of pairs that can be read. -/
def KRow (w : World) (v : Value) (ks : List (Int × Int)) : Prop :=
  (v = .slice none 0 0 ∧ ks = []) ∨ (∃ x c, v = .slice (some x) 0 c ∧ ks = []) ∨ ∃ b o c : Nat, v = .slice (some ⟨b, o, none⟩) ks.length c ∧
    ∀ i, i < ks.length → w.cell? ⟨b, o + i * 2, none⟩ = some (.int .i32 (ks.getD i (0, 0)).1) ∧ w.cell? ⟨b, o + i * 2 + 1, none⟩ = some (.int .i32 (ks.getD i (0, 0)).2)

/-- What cloneKeys gives: empty, or a row of its own in block g. -/
def KOwn (w : World) (g : Nat) (v : Value) (ks : List (Int × Int)) : Prop :=
  (ks = [] ∧ ∃ x c, v = .slice x 0 c) ∨ (0 < ks.length ∧ v = .slice (some ⟨g, 0, none⟩) ks.length ks.length ∧ ∃ f, w.rowIs g 42 (ks.length * 2) f ∧ ∀ i, i < ks.length → f (i * 2) = .int .i32 (ks.getD i (0, 0)).1 ∧ f (i * 2 + 1) = .int .i32 (ks.getD i (0, 0)).2)

theorem cell_lt {w : World} {b o : Nat} {v : Value} (h : w.cell? ⟨b, o, none⟩ = some v) : b < w.heap.size := by
  refine Nat.lt_of_not_le fun hn => ?_
  have : w.heap[b]? = none := Array.getElem?_eq_none hn
  simp [World.cell?, this] at h

theorem make_keys (n : Nat) (h : n ≤ 4096) (w : World) : (Instr.makeSlice 37 (.int .i64 (n : Int)) (.int .i64 (n : Int))).run Try.prog w =
    .ok (.slice (some ⟨w.heap.size, 0, none⟩) n n) (w.alloc (.cells (madeCells #[.int .i32 0, .int .i32 0] (n * 2)) 42)) := by
  obtain ⟨i, hi, hz, hs, hb⟩ := info_parts info42
  have hr := run_make (P := Try.prog) w 37 42 i _ Try.underlying37 hi hz .i64 .i64 n n (by omega) (by omega) (by rw [hb]; omega) (by omega)
  simp only [Int.toNat_natCast, hs] at hr
  exact hr
theorem make_keys0 (w : World) : (Instr.makeSlice 37 (.int .i64 0) (.int .i64 0)).run Try.prog w = .ok (.slice (some ⟨w.heap.size, 0, none⟩) 0 0) (w.alloc (.cells #[] 42)) := by kernel_rfl

theorem rowIs_any (w : World) (z : Array Value) (m : Nat) (e : TypeId) : ∃ f, (w.alloc (.cells (madeCells z m) e)).rowIs w.heap.size e m f := by
  refine ⟨fun i => (madeCells z m).getD i undef, madeCells z m, blk_alloc_new _ _, size_madeCells _ _, fun i hi => ?_⟩
  simp [Array.getD, size_madeCells, hi]

theorem eqs_none (w : World) : (binOp .eql 37 (.slice none 0 0) (.slice none 0 0)).run Try.prog w = .ok (.bool true) w := by kernel_rfl
theorem eqs_some (x : Addr) (n c : Nat) (w : World) : (binOp .eql 37 (.slice (some x) n c) (.slice none 0 0)).run Try.prog w = .ok (.bool false) w := by kernel_rfl
attribute [local go_sem] eqs_none eqs_some

set_option maxRecDepth 100000 in
set_option maxHeartbeats 400000 in
theorem clone_any (v : Value) (ks : List (Int × Int)) (w : World) (h : KRow w v ks) (hn : ks.length ≤ 4096) : Calls Try.prog 18 #[v] w fun e w' => ∃ u, e = .returned u ∧ KOwn w' w.heap.size u ks ∧ Below w.heap.size w w' := by
  rcases h with ⟨rfl, rfl⟩ | ⟨x, c, rfl, rfl⟩ | ⟨b, o, c, rfl, hc⟩
  · go_enter Try.func18, Try.ntmps18
    go_wp2
    go_ret
    exact ⟨_, rfl, .inl ⟨rfl, _, _, rfl⟩, Below.refl _ _⟩
  · have hmk := make_keys0
    go_enter Try.func18, Try.ntmps18
    go_wp2
    refine wp_loop_rounds 1 ?_
    rw [rounds_succ]
    go_wp2
    go_ret
    exact ⟨_, rfl, .inl ⟨rfl, _, _, rfl⟩, (Below.refl _ _).alloc (Nat.le_refl _) _⟩
  · by_cases h0 : ks.length = 0
    · have hks : ks = [] := List.eq_nil_of_length_eq_zero h0
      subst hks
      have hmk := make_keys0
      go_enter Try.func18, Try.ntmps18
      go_wp2
      refine wp_loop_rounds 1 ?_
      rw [rounds_succ]
      go_wp2
      go_ret
      exact ⟨_, rfl, .inl ⟨rfl, _, _, rfl⟩, (Below.refl _ _).alloc (Nat.le_refl _) _⟩
    have hmk := make_keys ks.length hn
    have HC : Hid (∀ i, i < ks.length → w.cell? ⟨b, o + i * 2, none⟩ = some (.int .i32 (ks.getD i (0, 0)).1) ∧ w.cell? ⟨b, o + i * 2 + 1, none⟩ = some (.int .i32 (ks.getD i (0, 0)).2)) := hc
    clear hc
    have HN : Hid (¬ ks.length = 0) := h0
    clear h0
    generalize hL : ks.length = n at *
    have HL : Hid (ks.length = n) := hL
    clear hL
    go_enter Try.func18, Try.ntmps18
    go_wp2_with fail
    clear hmk
    go_loopw [4] (fun i wr => ∃ k : Nat, k ≤ n ∧ i = .int .i64 k ∧ Below w.heap.size w wr ∧ ∃ f, wr.rowIs w.heap.size 42 (n * 2) f ∧ ∀ j, j < k → f (j * 2) = .int .i32 (ks.getD j (0, 0)).1 ∧ f (j * 2 + 1) = .int .i32 (ks.getD j (0, 0)).2) (fun i _ => n - (intOf i).toNat)
    case atStart =>
      obtain ⟨f, hf⟩ := rowIs_any w #[.int .i32 0, .int .i32 0] (n * 2) 42
      exact ⟨0, Nat.zero_le _, rfl, (Below.refl _ _).alloc (Nat.le_refl _) _, f, hf, fun j hj => by omega⟩
    case round =>
      obtain ⟨k, hk, rfl, hnx, f, hrow, hf⟩ := hrel
      have HF : Hid (∀ j, j < k → f (j * 2) = .int .i32 (ks.getD j (0, 0)).1 ∧ f (j * 2 + 1) = .int .i32 (ks.getD j (0, 0)).2) := hf
      clear hf
      have HR : Hid (wr.rowIs w.heap.size 42 (n * 2) f) := hrow
      by_cases hlt : k < n
      · obtain ⟨h0, h1⟩ := HC.out k hlt
        have hb : b < w.heap.size := cell_lt h0
        have h0 := (hnx.cell (p := ⟨b, o + k * 2, none⟩) hb).trans h0
        have h1 := (hnx.cell (p := ⟨b, o + k * 2 + 1, none⟩) hb).trans h1
        have y0 := hrow.cell (i := k * 2) (by omega)
        have y1 := hrow.cell (i := k * 2 + 1) (by omega)
        have z := hrow.frozen
        obtain ⟨p, hp⟩ : ∃ p, ks.getD k (0, 0) = p := ⟨_, rfl⟩
        have HP : Hid (ks.getD k (0, 0) = p) := hp
        rw [hp] at h0 h1
        clear hp hrow
        go_wp2_with fail
        go_roundw
        case rel =>
          have hset := (HR.out.set (k * 2) (.int .i32 p.1)).set (k * 2 + 1) (.int .i32 p.2)
          refine ⟨k + 1, by omega, by go_num, (hnx.setCell (Nat.le_refl _) _).setCell (Nat.le_refl _) _, _, hset, fun j hj => ?_⟩
          by_cases e : j = k
          · subst e
            rw [HP.out]
            exact ⟨by simp, by simp⟩
          · have := HF.out j (by omega)
            rw [← this.1, ← this.2]
            constructor
            · rw [if_neg (by omega), if_neg (by omega)]
            · rw [if_neg (by omega), if_neg (by omega)]
        case measure => simp [intOf]; omega
      · obtain rfl : n = k := by omega
        go_wp2_with fail
        go_ret
        exact ⟨.slice (some ⟨w.heap.size, 0, none⟩) n n, rfl, .inr ⟨by rw [HL.out]; have := HN.out; omega, by rw [HL.out], f, by rw [HL.out]; exact HR.out, by rw [HL.out]; exact HF.out⟩, hnx⟩
end Go.Proofs.Qxb6605601a
