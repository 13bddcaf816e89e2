import Derived.Test.Qxb6605753aProg
import Derived.WalkKit
import Derived.WalkSpells
import Derived.WalkLawsBesides
import Derived.KernelRfl
namespace Go.Proofs.Qxb6605753a
open Go.RowKit

/-- What 'new(big.Rat)' lays. -/
def ratZ : Obj := .cells #[.bool false, .slice none 0 0, .bool false, .slice none 0 0] 31

theorem mk1 (w : World) : (Instr.makeSlice 27 (.int .i64 1) (.int .i64 1)).run Try.prog w = .ok (.slice (some ⟨w.heap.size, 0, none⟩) 1 1) (w.alloc (.cells #[.int .u64 0] 59)) := by kernel_rfl

set_option maxHeartbeats 400000 in
/-- '(*Rat).SetInt64(0)' on a new Rat. -/
theorem set_zero (w : World) :
    Calls Try.prog 7 #[.pointer (some ⟨w.heap.size, 0, none⟩), .int .i64 0] (w.alloc ratZ) fun e w' =>
      e = .returned (.pointer (some ⟨w.heap.size, 0, none⟩)) ∧ w' = (w.alloc (.cells #[.bool false, .slice none 0 0, .bool false, .slice (some ⟨w.heap.size + 1, 0, none⟩) 1 1] 31)).alloc (.cells #[.int .u64 1] 59) := by
  unfold ratZ
  have hmk := mk1
  go_enter Try.func7, Try.ntmps7
  go_wp2
  go_ret
  exact ⟨rfl, rfl⟩

set_option maxHeartbeats 400000 in
/-- '(*Rat).SetInt64(v)' on a new Rat, v positive. -/
theorem set_pos (v : Int) (h0 : 0 < v) (h1 : v ≤ 9223372036854775807) (w : World) :
    Calls Try.prog 7 #[.pointer (some ⟨w.heap.size, 0, none⟩), .int .i64 v] (w.alloc ratZ) fun e w' =>
      e = .returned (.pointer (some ⟨w.heap.size, 0, none⟩)) ∧ w' = ((w.alloc (.cells #[.bool false, .slice (some ⟨w.heap.size + 1, 0, none⟩) 1 1, .bool false, .slice (some ⟨w.heap.size + 2, 0, none⟩) 1 1] 31)).alloc (.cells #[.int .u64 v] 59)).alloc (.cells #[.int .u64 1] 59) := by
  unfold ratZ
  have hmk := mk1
  go_enter Try.func7, Try.ntmps7
  go_wp2
  go_ret
  exact ⟨rfl, rfl⟩

set_option maxHeartbeats 400000 in
theorem ratInt_pos (p q r : Nat) (v : Int) (h0 : 0 < v) (h1 : v ≤ 9223372036854775807) (w : World)
    (c0 : w.cell? ⟨p, 0, none⟩ = some (.bool false)) (c1 : w.cell? ⟨p, 1, none⟩ = some (.slice (some ⟨q, 0, none⟩) 1 1))
    (c2 : w.cell? ⟨p, 2, none⟩ = some (.bool false)) (c3 : w.cell? ⟨p, 3, none⟩ = some (.slice (some ⟨r, 0, none⟩) 1 1))
    (cq : w.cell? ⟨q, 0, none⟩ = some (.int .u64 v)) (cr : w.cell? ⟨r, 0, none⟩ = some (.int .u64 1)) :
    Calls Try.prog 9 #[.pointer (some ⟨p, 0, none⟩)] w fun e w' => e = .returned (.tuple #[.int .i64 v, .bool true]) ∧ w' = w := by
  go_enter Try.func9, Try.ntmps9
  go_wp2
  go_ret2
  exact ⟨rfl, rfl⟩

set_option maxHeartbeats 400000 in
theorem ratInt_zero (p r : Nat) (w : World)
    (c0 : w.cell? ⟨p, 0, none⟩ = some (.bool false)) (c1 : w.cell? ⟨p, 1, none⟩ = some (.slice none 0 0))
    (c2 : w.cell? ⟨p, 2, none⟩ = some (.bool false)) (c3 : w.cell? ⟨p, 3, none⟩ = some (.slice (some ⟨r, 0, none⟩) 1 1))
    (cr : w.cell? ⟨r, 0, none⟩ = some (.int .u64 1)) :
    Calls Try.prog 9 #[.pointer (some ⟨p, 0, none⟩)] w fun e w' => e = .returned (.tuple #[.int .i64 0, .bool true]) ∧ w' = w := by
  go_enter Try.func9, Try.ntmps9
  go_wp2
  go_ret2
  exact ⟨rfl, rfl⟩

set_option maxHeartbeats 400000 in
/-- A Rat that nobody has set: nought. -/
theorem ratInt_new (w : World) :
    Calls Try.prog 9 #[.pointer (some ⟨w.heap.size, 0, none⟩)] (w.alloc ratZ) fun e w' => e = .returned (.tuple #[.int .i64 0, .bool true]) ∧ Below w.heap.size w w' := by
  unfold ratZ
  go_enter Try.func9, Try.ntmps9
  go_wp2
  go_ret2
  exact ⟨rfl, (((Below.refl _ _).alloc (Nat.le_refl _) _).alloc (by simp) _).alloc (by simp; omega) _⟩
end Go.Proofs.Qxb6605753a
