/-
  THE WALKS OVER THE MEASURES: metricsOf, buildMeasures.
-/
import Derived.Test.Qxb6605753aOwn
import Derived.Test.Qxb6605753aTab
import Derived.Deep.OwnRows
namespace Go.Proofs.Qxb6605753a
open Go.RowKit Go.Deep

/-- v is a slice of measures of the metrics xs. -/
def MRow (w : World) (v : Value) (xs : List ByteArray) : Prop :=
  ∃ ao cap, v = .slice ao xs.length cap ∧ (xs = [] ∨ ∃ b off, ao = some ⟨b, off, none⟩ ∧ ∃ p q : Nat → Option Addr, ∀ i, i < xs.length →
    w.cell? ⟨b, off + i * 3, none⟩ = some (.string (xs.getD i ByteArray.empty)) ∧ w.cell? ⟨b, off + i * 3 + 1, none⟩ = some (.pointer (p i)) ∧ w.cell? ⟨b, off + i * 3 + 2, none⟩ = some (.pointer (q i)))

theorem mk38_0 (w : World) : (Instr.makeSlice 38 (.int .i64 0) (.int .i64 0)).run Try.prog w = .ok (.slice (some ⟨w.heap.size, 0, none⟩) 0 0) (w.alloc (.cells #[] 9)) := by kernel_rfl

set_option maxHeartbeats 400000 in
theorem metricsOf_any (v : Value) (xs : List ByteArray) (w : World) (h : MRow w v xs) (hn : xs.length ≤ 100000) :
    Calls Try.prog 42 #[v] w fun e w' => ∃ u, e = .returned u ∧ StrRow w' u xs ∧ Below w.heap.size w w' ∧ ∀ g, u.ownBlock = some g → w.heap.size ≤ g := by
  obtain ⟨ao, cap, rfl, h⟩ := h
  have hmk := run_make_row' (P := Try.prog) 38 9 (.string ByteArray.empty) 16 Try.underlying38 info9 rfl .i64 .i64 xs.length (by omega) (by omega)
  rcases h with rfl | ⟨b, off, rfl, p, q, hc⟩
  · clear hmk
    have hmk := mk38_0
    go_enter Try.func42, Try.ntmps42
    go_wp2
    refine wp_loop_rounds 1 ?_
    rw [rounds_succ]
    go_wp2
    go_ret
    exact ⟨_, rfl, ⟨_, 0, rfl, .inl rfl⟩, (Below.refl _ _).alloc (Nat.le_refl _) _, fun g hg => by cases hg; exact Nat.le_refl _⟩
  · generalize hL0 : xs.length = n at *
    have HL : Hid (xs.length = n) := hL0
    clear hL0
    have HC : Hid (∀ i, i < n → w.cell? ⟨b, off + i * 3, none⟩ = some (.string (xs.getD i ByteArray.empty)) ∧ w.cell? ⟨b, off + i * 3 + 1, none⟩ = some (.pointer (p i)) ∧ w.cell? ⟨b, off + i * 3 + 2, none⟩ = some (.pointer (q i))) := hc
    clear hc
    go_enter Try.func42, Try.ntmps42
    go_wp2
    clear hmk
    go_loopw [11] (fun i wr => ∃ k : Nat, k ≤ n ∧ i = .int .i64 k ∧ Below w.heap.size w wr ∧ ∃ f, wr.rowIs w.heap.size 9 n f ∧ ∀ j, j < k → f j = .string (xs.getD j ByteArray.empty)) (fun i _ => n - (intOf i).toNat)
    case atStart => exact ⟨0, Nat.zero_le _, rfl, (Below.refl _ _).alloc (Nat.le_refl _) _, _, World.rowIs_made w _ n 9, fun j hj => by omega⟩
    case round =>
      obtain ⟨k, hk, rfl, hnx, f, hrow, hf⟩ := hrel
      have HF : Hid (∀ j, j < k → f j = .string (xs.getD j ByteArray.empty)) := hf
      clear hf
      by_cases hlt : k < n
      · have hb : b < w.heap.size := cell_lt (HC.out k hlt).1
        have h0 := (hnx.cell (p := ⟨b, off + k * 3, none⟩) hb).trans (HC.out k hlt).1
        have h1 := (hnx.cell (p := ⟨b, off + k * 3 + 1, none⟩) hb).trans (HC.out k hlt).2.1
        have h2 := (hnx.cell (p := ⟨b, off + k * 3 + 2, none⟩) hb).trans (HC.out k hlt).2.2
        obtain ⟨x, hx⟩ : ∃ x, xs.getD k ByteArray.empty = x := ⟨_, rfl⟩
        rw [hx] at h0
        have HX : Hid (xs.getD k ByteArray.empty = x) := hx
        clear hx
        have hcell := fun o => (hrow.alloc o).cell hlt
        have hfro := fun o => (hrow.alloc o).frozen k
        go_wp2_with fail
        go_roundw
        case rel =>
          refine ⟨k + 1, by omega, by go_num, (hnx.alloc hnx.size _).setCell (Nat.le_refl _) _, _, (hrow.alloc _).set k _, fun j hj => ?_⟩
          by_cases e : j = k
          · subst e; simp [← HX.out]
          · simp [e]; exact (HF.out j (by omega)).trans (by simp)
        case measure => simp [intOf]; omega
      · obtain rfl : n = k := by omega
        go_wp2_with fail
        go_ret
        refine ⟨.slice (some ⟨w.heap.size, 0, none⟩) n n, rfl, ⟨_, n, by rw [HL.out], .inr ⟨w.heap.size, 0, rfl, fun i hi => ?_⟩⟩, hnx, fun g hg => by cases hg; exact Nat.le_refl _⟩
        rw [HL.out] at hi
        rw [Nat.zero_add, hrow.cell hi, HF.out i hi]
end Go.Proofs.Qxb6605753a
