/-
  The two laws on Unmangle: the walks.
-/
import Derived.Test.Qxb6605778aFmtRuns
namespace Go.Proofs.Qxb6605778aFmt
open Go.RowKit

theorem fits6 (s : ByteArray) (w : World) (hs : s.size ≤ maxLen) : Calls Tryf.prog 6 #[.string s] w fun e w' => e = .returned (.bool (decide (s.size ≤ 1048576))) ∧ w' = w := by
  unfold maxLen at hs
  by_cases h : (1048576 : Int) < s.size
  · have hd : decide (s.size ≤ 1048576) = false := decide_eq_false (by omega)
    rw [hd]
    go_enter Tryf.func6, Tryf.ntmps6
    go_wp2
    go_ret
    exact ⟨rfl, rfl⟩
  · have hd : decide (s.size ≤ 1048576) = true := decide_eq_true (by omega)
    rw [hd]
    go_enter Tryf.func6, Tryf.ntmps6
    go_wp2
    go_ret
    exact ⟨rfl, rfl⟩

theorem fits9 (s : ByteArray) (w : World) (hs : s.size ≤ maxLen) : Calls Tryf.prog 9 #[.string s] w fun e w' => e = .returned (.bool (decide (s.size ≤ 1048576))) ∧ w' = w := by
  unfold maxLen at hs
  by_cases h : (1048576 : Int) < s.size
  · have hd : decide (s.size ≤ 1048576) = false := decide_eq_false (by omega)
    rw [hd]
    go_enter Tryf.func9, Tryf.ntmps9
    go_wp2
    go_ret
    exact ⟨rfl, rfl⟩
  · have hd : decide (s.size ≤ 1048576) = true := decide_eq_true (by omega)
    rw [hd]
    go_enter Tryf.func9, Tryf.ntmps9
    go_wp2
    go_ret
    exact ⟨rfl, rfl⟩

set_option maxRecDepth 100000 in
set_option maxHeartbeats 1000000 in
theorem walk3 (s : ByteArray) (w : World) (hs : s.size ≤ maxLen) : Calls Tryf.prog 3 #[.string s] w fun e w' => e = .returned (.bool true) ∧ Below w.heap.size w w' := by
  by_cases h : s.size ≤ 1048576
  · go_enter Tryf.func3, Tryf.ntmps3
    go_wp2_with fail
    refine (fits6 s w hs).mono ?_
    rw [decide_eq_true h]
    rintro e w1 ⟨rfl, rfl⟩
    have h' : ¬ (1048576 : Int) < s.size := by omega
    go_wp2_with fail
    refine (unmangle_any s w1 h).mono ?_
    rintro e w2 ⟨hu, hb2⟩
    rcases hu with ⟨t, ht, rfl⟩ | ⟨v, ht, rfl⟩
    · go_wp2_with fail
      refine (runs_any s w2 h).mono ?_
      rintro e w3 ⟨hu, hb3⟩
      have hbel := hb2.trans (hb3.mono hb2.size)
      rcases hu with ⟨t', ht', rfl⟩ | ⟨ht', rfl⟩
      · rw [ht] at ht'
        cases ht'
        have hb : ((⟨t.toArray⟩ : ByteArray).toList == (⟨t.toArray⟩ : ByteArray).toList) = true := beq_self_eq_true _
        go_wp2_with fail
        go_ret
        exact ⟨rfl, hbel⟩
      · rw [ht] at ht'; cases ht'
    · go_wp2_with fail
      refine (runs_any s w2 h).mono ?_
      rintro e w3 ⟨hu, hb3⟩
      have hbel := hb2.trans (hb3.mono hb2.size)
      rcases hu with ⟨t', ht', rfl⟩ | ⟨ht', rfl⟩
      · rw [ht] at ht'; cases ht'
      · go_wp2_with fail
        go_ret
        exact ⟨rfl, hbel⟩
  · go_enter Tryf.func3, Tryf.ntmps3
    go_wp2_with fail
    refine (fits6 s w hs).mono ?_
    rw [decide_eq_false h]
    rintro e w1 ⟨rfl, rfl⟩
    go_wp2_with fail
    go_ret
    exact ⟨rfl, Below.refl _ _⟩

theorem mk_toArray (s : ByteArray) : (⟨s.data.toList.toArray⟩ : ByteArray) = s := by simp

set_option maxRecDepth 100000 in
set_option maxHeartbeats 1000000 in
theorem walk4 (s : ByteArray) (w : World) (hs : s.size ≤ maxLen) : Calls Tryf.prog 4 #[.string s] w fun e w' => e = .returned (.bool true) ∧ Below w.heap.size w w' := by
  by_cases h : s.size ≤ 1048576
  · by_cases h5 : s.size ≤ 524288
    · go_enter Tryf.func4, Tryf.ntmps4
      go_wp2_with fail
      refine (fits9 s w hs).mono ?_
      rw [decide_eq_true h]
      rintro e w1 ⟨rfl, rfl⟩
      have h' : ¬ (524288 : Int) < s.size := by omega
      go_wp2_with fail
      refine (mangle_any s w1 h5).mono ?_
      rintro e w2 ⟨rfl, hb2⟩
      go_wp2_with fail
      have hl : (⟨(Pl.mng s.data.toList).toArray⟩ : ByteArray).size ≤ 1048576 := by
        have := Pl.mng_len s.data.toList
        have e : s.data.toList.length = s.size := by rw [Array.length_toList]; rfl
        show (Pl.mng s.data.toList).toArray.size ≤ _
        rw [List.size_toArray]; omega
      refine (unmangle_any _ w2 hl).mono ?_
      rintro e w3 ⟨hu, hb3⟩
      have hbel := hb2.trans (hb3.mono hb2.size)
      unfold UnmOk at hu
      rw [List.toList_toArray, Pl.unm_mng] at hu
      rcases hu with ⟨t, ht, rfl⟩ | ⟨v, ht, rfl⟩
      · cases ht
        rw [mk_toArray]
        have hb : (s.toList == s.toList) = true := beq_self_eq_true _
        go_wp2_with fail
        go_ret
        exact ⟨rfl, hbel⟩
      · cases ht
    · go_enter Tryf.func4, Tryf.ntmps4
      go_wp2_with fail
      refine (fits9 s w hs).mono ?_
      rw [decide_eq_true h]
      rintro e w1 ⟨rfl, rfl⟩
      have h' : (524288 : Int) < s.size := by omega
      go_wp2_with fail
      go_ret
      exact ⟨rfl, Below.refl _ _⟩
  · go_enter Tryf.func4, Tryf.ntmps4
    go_wp2_with fail
    refine (fits9 s w hs).mono ?_
    rw [decide_eq_false h]
    rintro e w1 ⟨rfl, rfl⟩
    go_wp2_with fail
    go_ret
    exact ⟨rfl, Below.refl _ _⟩
end Go.Proofs.Qxb6605778aFmt
