/-
  KEYS: arrays of two int32.
-/
import Derived.Test.Qxb6605601aProg
import Derived.WalkKit
import Derived.WalkSpells
import Derived.WalkLawsBesides
import Derived.KernelRfl
import Derived.Maps.OwnSet
import Derived.DeepKeys4
namespace Go.Proofs.Qxb6605601a
open Go.RowKit Go.Maps

theorem laidOut : laidOutB Try.prog = true := by kernel_rfl
theorem row42 : (42 : TypeId) < Try.prog.types.size := of_decide_eq_true (by kernel_rfl)
theorem cells42 : Try.prog.cellsOf 42 = 2 := by kernel_rfl
theorem cells21 : Try.prog.cellsOf 21 = 1 := by kernel_rfl
theorem keyT : Try.prog.keyType 42 = true := by kernel_rfl
theorem keyAt2 : Try.prog.keyTypeAt 2 42 = true := by kernel_rfl
theorem wide42 : (match Try.prog.underlying 42 with | some (.array _ _) | some (.struct _) => true | _ => false) = true := by rw [Try.underlying42]
set_option maxRecDepth 100000 in
theorem law : Keyed Try.prog 42 := Keyed.of_law (deep_law_laid laidOut (m := 2) (by omega) row42 keyAt2 wide42)

/-- A pair as a value. -/
abbrev K2 (k : Int × Int) : Value := .agg #[.int .i32 k.1, .int .i32 k.2]
def Wf (k : Int × Int) : Prop := (Lit.int .i32 k.1).wf = true ∧ (Lit.int .i32 k.2).wf = true

theorem formed42 {c0 c1 : Value} : (Value.agg #[c0, c1]).formed Try.prog 42 = true := by simp [Value.formed, Try.underlying42, cells42]

theorem typesBig : ∃ n, Try.prog.types.size + 1 = n + 2 := ⟨Try.prog.types.size - 1, by have h : 42 < Try.prog.types.size := row42; omega⟩

def kl (k : Int × Int) : Lit := .string (keyBytes [.int .i32 k.1, .int .i32 k.2])

theorem key_ok (k : Int × Int) (h : Wf k) : keyOf Try.prog 42 (K2 k) = some (kl k) := by
  obtain ⟨n, hn⟩ := typesBig
  unfold keyOf
  rw [Try.underlying42]
  simp only [keyT, formed42, Bool.and_self, if_true]
  rw [hn]
  simp [Program.keyLits, Try.underlying42, Try.underlying21, cells42, cells21, Value.cells, h.1, h.2, kl, List.range_succ, List.mapM_cons]

theorem kl_inj {k l : Int × Int} (hk : Wf k) (hl : Wf l) (h : kl k = kl l) : k = l := by
  have e := law.inj (key_ok k hk) (h ▸ key_ok l hl)
  injection e with e
  have e1 := congrArg (fun a => a[0]?) e
  have e2 := congrArg (fun a => a[1]?) e
  simp at e1 e2
  exact Prod.ext e1 e2

set_option maxRecDepth 100000 in
theorem eq_run (k l : Int × Int) (hk : Wf k) (hl : Wf l) (w : World) : (binOp .eql 42 (K2 k) (K2 l)).run Try.prog w = .ok (.bool (decide (k = l))) w := by
  obtain ⟨r, hr, hi⟩ := run_equal_deep w (m := 2) (by omega) keyAt2 wide42 (key_ok k hk) (key_ok l hl)
  have e : r = decide (k = l) := by
    rw [Bool.eq_iff_iff, hi, decide_eq_true_iff]
    exact ⟨kl_inj hk hl, fun h => by rw [h]⟩
  rw [← e]
  unfold binOp
  simp [hr]

set_option maxRecDepth 100000 in
theorem ne_run (k l : Int × Int) (hk : Wf k) (hl : Wf l) (w : World) : (binOp .neq 42 (K2 k) (K2 l)).run Try.prog w = .ok (.bool (!decide (k = l))) w := by
  obtain ⟨r, hr, hi⟩ := run_equal_deep w (m := 2) (by omega) keyAt2 wide42 (key_ok k hk) (key_ok l hl)
  have e : r = decide (k = l) := by
    rw [Bool.eq_iff_iff, hi, decide_eq_true_iff]
    exact ⟨kl_inj hk hl, fun h => by rw [h]⟩
  rw [← e]
  unfold binOp
  simp [hr]
end Go.Proofs.Qxb6605601a
