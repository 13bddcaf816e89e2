/-
  The proof of the told card 'Rows.FnSnapshotCompleteRisesWithLimitsToldSaid'.
-/
import Derived.Test.Qxb6605778aFmtCards
import Derived.Test.Qxb6605778aFmtSnap7
import Derived.Test.Qxb6605778aFmtSnapOpen
import Derived.WalkKit
import Derived.ProofKit
import Derived.OpenShut
import Derived.ShutString
import Derived.ChangeOld
import Derived.Below
import Derived.SevenToldRow
import Derived.Stop.JoinedAt
import Derived.Stop.JoinedTold
namespace Go.Proofs.Qxb6605778aFmt.fnSnapshotCompleteRisesWithLimits
open Go.ChangeShapes Go.WideShapes Go.ChangeAt Go.RowKit
open Go.Extern.Stop Go.Stop Go.Extern
set_option linter.unusedVariables false

theorem own : ownKnob Tryf.prog.godebug = none := by kernel_rfl
theorem laidOut : laidOutB Tryf.prog = true := by kernel_rfl
theorem laidOut' : laidOutB Tryf.pinned.checked.prog = true := by kernel_rfl
theorem stops : Tryf.pinned.checked.prog.stops = ["fmt.errorf, its operands' methods called"] := by kernel_rfl
theorem stopKnobs : Tryf.pinned.checked.prog.stopKnobs = [] := by kernel_rfl
theorem quiet (os : Os) : Stop.quiet Tryf.pinned.checked.prog os := by
  intro k hk
  rw [stopKnobs] at hk
  cases hk

abbrev spec : OpenSpec := OpenSpec.ofChange Rows.fnSnapshotCompleteRisesWithLimitsSpec

set_option maxRecDepth 100000 in
theorem lifted (os : Os) (started : os.Started) (H : Type) (enc : TypeId × Value → H) :
    ReturnsInTold none {} Tryf.checked os 5 .any Input.okWide (spec.preRow enc Tryf.prog Tryf.f5 [] false []) (fun F => (spec.at F).post enc Tryf.prog Tryf.f5 false true false false) (aloneAtReturn Tryf.prog) nothingAlways := by
  refine returnsInTold_of_row (C := Tryf.checked) (s := spec) (by kernel_rfl) own started (by kernel_rfl) Tryf.func5
    (OpenSpec.witness_stopped (enc := enc) (C := Tryf.checked) false ⟨#[], #[.pointer none, .bool false, .pointer none, .pointer none, .pointer none], []⟩ 8 (by kernel_rfl) (by kernel_rfl) (by kernel_rfl) (by kernel_rfl)) ?_
  intro F W base args ds gs before _ hF hval0 hW _ _ hsz _ _
  have hval : ∀ (j : Nat) t v, Tryf.f5.params[j]? = some t → args[j]? = some v → Value.okWide Tryf.prog W .any base t v := hval0
  have hW' := hW
  obtain ⟨p, q, hA0, hV, rfl, hfz, hnd⟩ := hW
  have hA : DataW.TrodAll enc Tryf.prog W 0 (fun _ => true) true Tryf.f5.params.toList args.toList ds p := hA0
  rw [Tryf.params5] at hA hval
  obtain ⟨v0, vs0, d0, ds0, p0, q0, hargs, rfl, rfl, h0, r0⟩ := trodAll_cons hA
  obtain ⟨v1, vs1, d1, ds1, p1, q1, rfl, rfl, rfl, h1, r1⟩ := trodAll_cons r0
  obtain ⟨v2, vs2, d2, ds2, p2, q2, rfl, rfl, rfl, h2, r2⟩ := trodAll_cons r1
  obtain ⟨v3, vs3, d3, ds3, p3, q3, rfl, rfl, rfl, h3, r3⟩ := trodAll_cons r2
  obtain ⟨v4, vs4, d4, ds4, p4, q4, rfl, rfl, rfl, h4, r4⟩ := trodAll_cons r3
  obtain ⟨rfl, rfl, rfl⟩ := trodAll_nil r4
  obtain rfl : args = #[v0, v1, v2, v3, v4] := by cases args; simp_all
  obtain ⟨rfl, rfl⟩ := trodVars_none hV
  have lt0 : ∀ x ∈ p0, x.block < W.heap.size := by obtain ⟨m, hm⟩ := h0; exact DataW.trod_lt m _ _ _ hm
  have lt2 : ∀ x ∈ p2, x.block < W.heap.size := by obtain ⟨m, hm⟩ := h2; exact DataW.trod_lt m _ _ _ hm
  have lt3 : ∀ x ∈ p3, x.block < W.heap.size := by obtain ⟨m, hm⟩ := h3; exact DataW.trod_lt m _ _ _ hm
  have lt4 : ∀ x ∈ p4, x.block < W.heap.size := by obtain ⟨m, hm⟩ := h4; exact DataW.trod_lt m _ _ _ hm
  obtain ⟨a0, rfl⟩ := okWide_pointer Tryf.underlying30 (hval 0 30 v0 rfl rfl)
  obtain ⟨a2, rfl⟩ := okWide_pointer Tryf.underlying31 (hval 2 31 v2 rfl rfl)
  obtain ⟨a3, rfl⟩ := okWide_pointer Tryf.underlying31 (hval 3 31 v3 rfl rfl)
  obtain ⟨a4, rfl⟩ := okWide_pointer Tryf.underlying32 (hval 4 32 v4 rfl rfl)
  have k0 : ∃ t, TLp W (.pointer a0) t := by
    obtain ⟨m, hm⟩ := h0
    obtain ⟨x, t, e, ht⟩ := tl_of hm
    simp [Value.cells] at e
    subst e
    exact ⟨t, ht⟩
  have k2 : ∃ c n, CHp W (.pointer a2) c (fun lk => BytesOK W lk n) := by
    obtain ⟨m, hm⟩ := h2
    obtain ⟨x, t, n, e, ht⟩ := ch_of hm
    simp [Value.cells] at e
    subst e
    exact ⟨t, n, ht⟩
  have k3 : ∃ c n, CHp W (.pointer a3) c (fun lk => BytesOK W lk n) := by
    obtain ⟨m, hm⟩ := h3
    obtain ⟨x, t, n, e, ht⟩ := ch_of hm
    simp [Value.cells] at e
    subst e
    exact ⟨t, n, ht⟩
  have k4 : ∃ c n, DCp W (.pointer a4) c (fun lk => BytesOK W lk n) := by
    obtain ⟨m, hm⟩ := h4
    obtain ⟨x, t, n, e, ht⟩ := dc_of hm
    simp [Value.cells] at e
    subst e
    exact ⟨t, n, ht⟩
  obtain ⟨t, k0⟩ := k0
  obtain ⟨c, n1, k2⟩ := k2
  obtain ⟨md, n2, k3⟩ := k3
  obtain ⟨d, n3, k4⟩ := k4
  obtain ⟨m, rfl, rfl, rfl⟩ := open_bool Tryf.underlying4 (hval 1 4 v1 rfl rfl) h1
  clear hA0 hval0
  refine (walk5 a0 a2 a3 a4 m t c md d n1 n2 n3 W k0 k2 k3 k4).mono fun e W' ⟨he, bel⟩ => ?_
  subst he
  exact ⟨_, rfl, _, _, _, [], _, [], hW', trodAll_mk1 (shut_bool Tryf.underlying4 _),
    (trodAll_cons_mk (Below.trod laidOut (by kernel_rfl) (of_decide_eq_true (by kernel_rfl)) h0 bel lt0)
    (trodAll_cons_mk (shut_bool Tryf.underlying4 _)
    (trodAll_cons_mk (Below.trod laidOut (by kernel_rfl) (of_decide_eq_true (by kernel_rfl)) h2 bel lt2)
    (trodAll_cons_mk (Below.trod laidOut (by kernel_rfl) (of_decide_eq_true (by kernel_rfl)) h3 bel lt3)
    (trodAll_cons_mk (Below.trod laidOut (by kernel_rfl) (of_decide_eq_true (by kernel_rfl)) h4 bel lt4) trodAll_mk0))))),
    rfl, bel.frame _, fun h => by cases h⟩

/-- The statement. -/
theorem proved : Rows.FnSnapshotCompleteRisesWithLimitsToldSaid :=
  Claim7.holds_of_told_any 5 Tryf.f5 "fmt.errorf, its operands' methods called" [] [] _ _ _ (by kernel_rfl) rfl rfl rfl laidOut' (by kernel_rfl) rfl ⟨rfl, rfl, rfl, rfl, rfl, rfl, rfl⟩ rfl rfl (by kernel_rfl) (by kernel_rfl) Tryf.func5 (by kernel_rfl)
    (of_decide_eq_true (by kernel_rfl)) (of_decide_eq_true (by kernel_rfl)) stops.symm rfl stopKnobs.symm (by kernel_rfl)
    (by kernel_rfl) (by kernel_rfl) (by kernel_rfl) (by kernel_rfl) (by kernel_rfl) (by kernel_rfl) (by kernel_rfl) (by kernel_rfl) (by kernel_rfl) rfl (by kernel_rfl) rfl rfl
    rfl rfl
    rfl (by kernel_rfl) (by kernel_rfl) (by kernel_rfl) (by decide) (by kernel_rfl)
    (OpenClaim.moreEntering_of (by kernel_rfl) (by kernel_rfl) (by kernel_rfl) (by kernel_rfl) (by kernel_rfl) (by kernel_rfl) (by kernel_rfl) (by kernel_rfl) (by kernel_rfl) (by kernel_rfl))
    ⟨_, WideRow.started_initial, quiet _⟩
    (fun os started _ H enc _ => lifted os started H enc)
end Go.Proofs.Qxb6605778aFmt.fnSnapshotCompleteRisesWithLimits
