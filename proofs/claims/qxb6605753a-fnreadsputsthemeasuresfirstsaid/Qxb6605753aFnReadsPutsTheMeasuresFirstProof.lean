/-
  The proof of 'Rows.FnReadsPutsTheMeasuresFirstSaid'.
-/
import Derived.Test.Qxb6605753aRows
import Derived.Test.Qxb6605753aLaw4
import Derived.Test.Qxb6605753aOpen
import Derived.WalkKit
import Derived.ProofKit
import Derived.OpenShut
import Derived.ShutString
import Derived.ChangeOld
import Derived.Below
namespace Go.Proofs.Qxb6605753a.fnReadsPutsTheMeasuresFirst
open Go.ChangeShapes Go.WideShapes Go.ChangeAt Go.RowKit
set_option linter.unusedVariables false

theorem own : ownKnob Try.prog.godebug = none := by kernel_rfl
theorem laidOut : laidOutB Try.prog = true := by kernel_rfl

set_option maxRecDepth 100000 in
/-- More than 4096 metrics: true at once. -/
theorem many (ao : Option Addr) (n cap : Nat) (p : Option Addr) (w : World) (h : (4096 : Int) < (n : Int)) :
    Calls Try.prog 4 #[.slice ao n cap, .pointer p] w fun e w' => e = .returned (.bool true) ∧ Below w.heap.size w w' := by
  go_enter Try.func4, Try.ntmps4
  go_wp2_with fail
  go_ret
  exact ⟨rfl, Below.refl _ _⟩

theorem walk (v0 v1 : Value) (ms seq : List ByteArray) (N : Nat) (w : World) (h0 : StrRow w v0 ms) (h1 : ZPtr w (fun b => b < w.heap.size) v1 seq N) :
    Calls Try.prog 4 #[v0, v1] w fun e w' => e = .returned (.bool true) ∧ Below w.heap.size w w' := by
  obtain ⟨ao, cap, rfl, h0⟩ := h0
  by_cases hn : 4096 < ms.length
  · rcases h1 with ⟨rfl, _, _⟩ | ⟨b, o, d, u0, u1, u2, u3, rfl, hb, c0, c1, c2, c3, ht⟩
    · exact many ao ms.length cap none w (by omega)
    · exact many ao ms.length cap (some ⟨b, o, none⟩) w (by omega)
  rcases h0 with rfl | ⟨b, off, rfl, hc⟩
  · rcases h1 with ⟨rfl, rfl, rfl⟩ | ⟨p, o, d, z0, z1, z2, z3, rfl, hb, c0, c1, c2, c3, ht⟩
    · exact law4_a ao cap w
    · exact law4_b ao cap seq N p o d z0 z1 z2 z3 _ w (fun b h => h) hb c0 c1 c2 c3 ht
  · rcases h1 with ⟨rfl, rfl, rfl⟩ | ⟨p, o, d, z0, z1, z2, z3, rfl, hb, c0, c1, c2, c3, ht⟩
    · exact law4_c b off ms.length cap ms (show ms.length = ms.length from rfl) w hc (by omega)
    · exact law4_d b off ms.length cap ms (show ms.length = ms.length from rfl) seq N p o d z0 z1 z2 z3 _ w hc (by omega) (fun b h => h) hb c0 c1 c2 c3 ht

set_option maxRecDepth 100000 in
theorem lifted (os : Os) (started : os.Started) (H : Type) (enc : TypeId × Value → H) :
    ReturnsInHanded {} Try.checked os 4 .any (Rows.fnReadsPutsTheMeasuresFirstSpec.pre6 enc Try.prog Try.f4 Rows.fnReadsPutsTheMeasuresFirstRow.domain false) (Rows.fnReadsPutsTheMeasuresFirstSpec.post enc Try.prog Try.f4 false true false false) := by
  refine returnsInHanded_of_change (C := Try.checked) own started (by kernel_rfl) Try.func4
    (ChangeSpec.witness6 (enc := enc) (C := Try.checked) false ⟨#[], #[.slice none 0 0, .pointer none], []⟩ 8 (by kernel_rfl) (by kernel_rfl) (by kernel_rfl) (by kernel_rfl)) ?_
  intro W base args ds gs before hval0 hW hcnd _
  have hval : ∀ (j : Nat) t v, Try.f4.params[j]? = some t → args[j]? = some v → Value.okWide Try.prog W .any base t v := hval0
  have hW' := hW
  obtain ⟨p, q, hA0, hV, rfl, hfz, hnd⟩ := hW
  have hA : DataW.TrodAll enc Try.prog W 0 (fun _ => true) true Try.f4.params.toList args.toList ds p := hA0
  rw [Try.params4] at hA hval
  obtain ⟨v0, vs0, d0, ds0, p0, q0, hargs, rfl, rfl, h0, r0⟩ := trodAll_cons hA
  obtain ⟨v1, vs1, d1, ds1, p1, q1, rfl, rfl, rfl, h1, r1⟩ := trodAll_cons r0
  obtain ⟨rfl, rfl, rfl⟩ := trodAll_nil r1
  obtain rfl : args = #[v0, v1] := by cases args; simp_all
  obtain ⟨rfl, rfl⟩ := trodVars_none hV
  have lt0 : ∀ x ∈ p0, x.block < W.heap.size := by obtain ⟨m, hm⟩ := h0; exact DataW.trod_lt m _ _ _ hm
  have lt1 : ∀ x ∈ p1, x.block < W.heap.size := by obtain ⟨m, hm⟩ := h1; exact DataW.trod_lt m _ _ _ hm
  obtain ⟨ms, w0, _⟩ := row_of (hval 0 38 v0 rfl rfl) h0
  obtain ⟨seq, N, w1⟩ := zptr_of (hval 1 39 v1 rfl rfl) h1
  clear hA0 hval0
  refine (walk v0 v1 ms seq N W w0 w1).mono fun e W' ⟨he, bel⟩ => ?_
  subst he
  exact ⟨_, rfl, _, _, _, [], _, [], hW', trodAll_mk1 (shut_bool Try.underlying4 _), (trodAll_cons_mk (Below.trod laidOut (by kernel_rfl) (of_decide_eq_true (by kernel_rfl)) h0 bel lt0) (trodAll_cons_mk (Below.trod laidOut (by kernel_rfl) (of_decide_eq_true (by kernel_rfl)) h1 bel lt1) trodAll_mk0)), rfl, bel.frame _, fun h => by cases h⟩

theorem over : Rows.fnReadsPutsTheMeasuresFirstRow.holds Try.pinned (OpenSpec.ofChange Rows.fnReadsPutsTheMeasuresFirstSpec) :=
  OpenClaim.holds_of_wide 4 Try.f4 rfl rfl rfl rfl rfl rfl rfl ⟨rfl, rfl, rfl, rfl, rfl⟩ rfl rfl rfl rfl rfl (by kernel_rfl) Try.func4 (by kernel_rfl)
    (of_decide_eq_true (by kernel_rfl)) (by unfold Func.isWrapper; first | (rw [if_pos (by decide +kernel)]; kernel_rfl) | (rw [if_neg (by decide +kernel)]; exact ⟨rfl, rfl⟩))
    (fun os started H enc _ => lifted os started H enc)

theorem proved : Rows.FnReadsPutsTheMeasuresFirstSaid := over
end Go.Proofs.Qxb6605753a.fnReadsPutsTheMeasuresFirst
