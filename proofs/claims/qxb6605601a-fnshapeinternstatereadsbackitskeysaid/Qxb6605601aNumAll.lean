/-
  FnShapeInternNumbersKeysByFirstSight: every input.
-/
import Derived.Test.Qxb6605601aNum
import Derived.OpenShut
namespace Go.Proofs.Qxb6605601a
open Go.RowKit Go.Maps Go.Deep

set_option maxRecDepth 100000 in
set_option maxHeartbeats 300000 in
theorem num_empty (a : Option Addr) (c n : Nat) (w : World) (h : KRow w (.slice a 0 c) []) (hn : n ≤ 255) :
    Calls Try.prog 5 #[.slice a 0 c, .int .i64 n] w fun e w' => e = .returned (.bool true) ∧ Below w.heap.size w w' := by
  have HK : Hid (KRow w (.slice a 0 c) []) := h
  have F17 := fits17 a 0 c (.int .i64 n) w
  rw [decide_eq_true (by omega)] at F17
  have hn0 : ¬ (n : Int) < 0 := by omega
  have hn1 : ¬ (255 : Int) < (n : Int) := by omega
  clear h
  go_enter Try.func5, Try.ntmps5
  go_wp2_with fail
  refine F17.mono ?_
  rintro e w1 ⟨rfl, rfl⟩
  clear F17
  go_wp2_with fail
  refine (clone_any _ [] w1 HK.out (by simp)).mono ?_
  rintro e x1 ⟨u, rfl, hu, b1⟩
  rcases hu with ⟨_, x, c', rfl⟩ | ⟨h0, _⟩
  · have HB1 : Hid (Below w1.heap.size w1 x1) := b1
    clear b1
    go_wp2_with fail
    refine (mach_new n x1).mono ?_
    rintro e x2 ⟨rfl, M2, b2, hs2⟩
    have HB2 : Hid (Below x1.heap.size x1 x2) := b2
    have hmk := make_keys0
    have MY := M2.kept (Turn.of_alloc (own := fun _ => False) x2 (.cells #[] 42)) (fun _ _ _ h => h)
    have HMY : Hid (Mach x1.heap.size (x2.alloc (.cells #[] 42)) (x1.heap.size + 1) n [] (fun x => x = x1.heap.size ∨ x = x1.heap.size + 1)) := MY
    clear M2 b2 hs2 MY
    have HBY : Hid (Below w1.heap.size w1 (x2.alloc (.cells #[] 42))) := by
      have h12 := HB1.out.trans (HB2.out.mono HB1.out.size)
      exact h12.trans ((Below.refl _ _).alloc h12.size _)
    go_wp2_with fail
    refine wp_loop_rounds 1 ?_
    rw [rounds_succ]
    go_wp2_with fail
    refine (states_any _ _ _ _ _ _ HMY.out).mono ?_
    rintro e w2 ⟨rfl, aS, ls, cs, rfl, hrS, hoS⟩
    have hl : ls = 0 := own_len hrS
    clear hrS hoS hmk
    subst hl
    go_wp2_with fail
    refine wp_loop_rounds 1 ?_
    rw [rounds_succ]
    go_wp2_with fail
    refine (table_any _ _ _ _ _ _ HMY.out).mono ?_
    rintro e w3 ⟨rfl, aT, lT, cT, rfl, hrT⟩
    have hl : lT = n * 0 := own_len hrT
    rw [Nat.mul_zero] at hl
    clear hrT
    subst hl
    go_wp2_with fail
    refine wp_loop_rounds 1 ?_
    rw [rounds_succ]
    go_wp2_with fail
    go_ret
    exact ⟨rfl, HBY.out⟩
  · simp at h0

theorem krow_form {w : World} {v : Value} {ks : List (Int × Int)} (h : KRow w v ks) : ∃ a c, v = .slice a ks.length c := by
  rcases h with ⟨rfl, rfl⟩ | ⟨x, c, rfl, rfl⟩ | ⟨b, o, c, rfl, _⟩
  · exact ⟨_, _, rfl⟩
  · exact ⟨_, _, rfl⟩
  · exact ⟨_, _, rfl⟩

set_option maxRecDepth 100000 in
theorem num_walk (v : Value) (ks : List (Int × Int)) (n : Int) (w : World) (h : KRow w v ks) (hwf : ∀ k ∈ ks, Wf k) (hn : (Lit.int .i64 n).wf = true) :
    Calls Try.prog 5 #[v, .int .i64 n] w fun e w' => e = .returned (.bool true) ∧ Below w.heap.size w w' := by
  obtain ⟨a, c, rfl⟩ := krow_form h
  have hb := bounds_i64 hn
  by_cases h1 : 4096 < ks.length
  · have HH : Hid (KRow w (.slice a ks.length c) ks) := h
    clear h hwf
    generalize ks.length = l at *
    have F17 := fits17 a l c (.int .i64 n) w
    have h1' : (4096 : Int) < (l : Int) := by omega
    by_cases h2 : l ≤ 1048576
    · rw [decide_eq_true h2] at F17
      go_enter Try.func5, Try.ntmps5
      go_wp2_with fail
      refine F17.mono ?_
      rintro e w1 ⟨rfl, rfl⟩
      go_wp2_with fail
      go_ret
      exact ⟨rfl, Below.refl _ _⟩
    · rw [decide_eq_false h2] at F17
      go_enter Try.func5, Try.ntmps5
      go_wp2_with fail
      refine F17.mono ?_
      rintro e w1 ⟨rfl, rfl⟩
      go_wp2_with fail
      go_ret
      exact ⟨rfl, Below.refl _ _⟩
  by_cases hr : 0 ≤ n ∧ n ≤ 255
  · obtain ⟨m, rfl⟩ := Int.eq_ofNat_of_zero_le hr.1
    by_cases h0 : ks.length = 0
    · have e := List.eq_nil_of_length_eq_zero h0
      subst e
      exact num_empty a c m w h (by omega)
    · exact num_main a ks.length c m ks w h hwf (by omega) (by omega) (by omega) rfl
  · clear h hwf
    generalize ks.length = l at *
    have F17 := fits17 a l c (.int .i64 n) w
    rw [decide_eq_true (show l ≤ 1048576 by omega)] at F17
    have h1' : ¬ (4096 : Int) < (l : Int) := by omega
    by_cases hneg : n < 0
    · go_enter Try.func5, Try.ntmps5
      go_wp2_with fail
      refine F17.mono ?_
      rintro e w1 ⟨rfl, rfl⟩
      go_wp2_with fail
      go_ret
      exact ⟨rfl, Below.refl _ _⟩
    · have hbig : 255 < n := by omega
      go_enter Try.func5, Try.ntmps5
      go_wp2_with fail
      refine F17.mono ?_
      rintro e w1 ⟨rfl, rfl⟩
      go_wp2_with fail
      go_ret
      exact ⟨rfl, Below.refl _ _⟩
end Go.Proofs.Qxb6605601a
