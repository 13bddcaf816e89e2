/-
  THE LAW 'FnReadsPutsTheMeasuresFirst': its walk.
-/
import Derived.Test.Qxb6605753aFull
import Derived.Test.Qxb6605753aThrough
namespace Go.Proofs.Qxb6605753a
open Go.RowKit Go.Deep

set_option maxHeartbeats 1000000 in
set_option maxRecDepth 100000 in
theorem law4_a (ao : Option Addr) (cap : Nat) (w : World) :
    Calls Try.prog 4 #[.slice ao 0 cap, .pointer none] w fun e w' => e = .returned (.bool true) ∧ Below w.heap.size w w' := by
  have HS : Hid (StrRow w (.slice ao 0 cap) []) := ⟨_, cap, rfl, .inl rfl⟩
  have HZ : Hid (ZPtr w (fun _ => False) (.pointer none) [] 0) := .inl ⟨rfl, rfl, rfl⟩
  have HR : Hid (∀ b, (fun _ => False) b → b < w.heap.size) := fun b hb => hb.elim
  go_enter Try.func4, Try.ntmps4
  go_wp2_with fail
  refine wp_loop_rounds 1 ?_
  rw [rounds_succ]
  have hb1 : Below w.heap.size w w := Below.refl _ _
  have hNN : 0 ≤ 4096 := by omega
  go_wp2_with fail
  refine (build_any _ [] w (HS.out.below hb1) (by simp)).mono ?_
  rintro e w2 ⟨u, rfl, hm2, hb2, _⟩
  have hbel2 : Below w.heap.size w w2 := hb1.trans (hb2.mono hb1.size)
  clear hb2
  go_wp2_with fail
  refine (gate2 u (.pointer none) [] [] (fun _ => False) w2 hm2 (.inl ⟨rfl, rfl⟩) (fun b hb => hb.elim) (by simp)).mono ?_
  rintro e w3 ⟨ab, nb, cb, rfl, hrb, hb3⟩
  have hbel3 : Below w.heap.size w w3 := hbel2.trans (hb3.mono hbel2.size)
  have hm3 := hm2.below hb3
  clear hb3 hm2
  go_wp2_with fail
  refine (require_any _ [] 0 (fun _ => False) w3 (HZ.out.kept (Kept.below hbel3 HR.out)) (fun b hb => Nat.lt_of_lt_of_le (HR.out b hb) hbel3.size) hNN).mono ?_
  rintro e w4 ⟨u4, rfl, hc4, hb4⟩
  have hbel4 : Below w.heap.size w w4 := hbel3.trans (hb4.mono hbel3.size)
  have hm4 := hm3.below hb4
  have hrb4 := hrb.below hb4
  clear hb4 hm3 hrb
  go_wp2_with fail
  refine (gate2 u u4 [] [] _ w4 hm4 hc4 (fun b hb => hb.2) (by simp)).mono ?_
  rintro e w5 ⟨af, nf, cf, rfl, hrf, hb5⟩
  have hbel5 : Below w.heap.size w w5 := hbel4.trans (hb5.mono hbel4.size)
  have hrb5 := hrb4.below hb5
  clear hb5 hm4 hc4 hrb4
  go_wp2_with fail
  refine (readSeq_any _ _ [] [] 0 (fun _ => False) w5 (HS.out.below hbel5) (HZ.out.kept (Kept.below hbel5 HR.out)) (fun b hb => Nat.lt_of_lt_of_le (HR.out b hb) hbel5.size) (by simp) hNN).mono ?_
  rintro e w6 ⟨uq, rfl, hq6, hb6⟩
  have hbel6 : Below w.heap.size w w6 := hbel5.trans (hb6.mono hbel5.size)
  have hrb6 := hrb5.below hb6
  have hrf6 := hrf.below hb6
  rw [List.append_nil] at hrb6
  clear hb6 hrb5 hrf
  have HFr : Hid (∀ i, i < nb → Pl.emp ((Pl.addN [] []).getD i ByteArray.empty) = false ∧ (Pl.addN [] ([] ++ [])).getD i ByteArray.empty = (Pl.addN [] []).getD i ByteArray.empty ∧
      0 ≤ Lib.idxOfS [] ((Pl.addN [] []).getD i ByteArray.empty) ∧ Lib.idxOfS (Pl.addN [] []) ((Pl.addN [] []).getD i ByteArray.empty) = i) := front_facts [] [] nb hrb6.1
  have HBk : Hid (∀ k, nb ≤ k → k < nf →
      Pl.emp ((Pl.addN [] ([] ++ [])).getD k ByteArray.empty) = false ∧ Lib.idxOfS [] ((Pl.addN [] ([] ++ [])).getD k ByteArray.empty) = -1 ∧
      Lib.idxOfS (Pl.addN [] ([] ++ [])) ((Pl.addN [] ([] ++ [])).getD k ByteArray.empty) = k ∧ 0 ≤ Lib.idxOfS ([] ++ []) ((Pl.addN [] ([] ++ [])).getD k ByteArray.empty) ∧
      ∀ j, k < j → j < nf → Lib.idxOfS ([] ++ []) ((Pl.addN [] ([] ++ [])).getD k ByteArray.empty) < Lib.idxOfS ([] ++ []) ((Pl.addN [] ([] ++ [])).getD j ByteArray.empty)) := back_facts [] [] nb nf hrb6.1 hrf6.1
  have HNb : Hid (nb = (Pl.addN [] []).length) := hrb6.1
  have HNf : Hid (nf = (Pl.addN [] ([] ++ [])).length) := hrf6.1
  have hle : nb ≤ nf := by rw [hrb6.1, hrf6.1]; exact Pl.front_len [] []
  have hnf : nf ≤ 40000 := by
    rw [hrf6.1]
    have h1 := Pl.addN_len [] ([] ++ [])
    have h2 : ([] ++ [] : List ByteArray).length ≤ 40000 := (by simp)
    rw [List.length_nil, Nat.zero_add] at h1
    exact Nat.le_trans h1 h2
  have hd : decide ((nf : Int) < (nb : Int)) = false := decide_eq_false (by omega)
  have hd' : decide (nf < nb) = false := decide_eq_false (by omega)
  have HSm : Hid (StrRow w6 (Value.slice ao 0 cap) []) := HS.out.below hbel6
  have HSq : Hid (StrRow w6 uq ([] ++ [])) := hq6
  have HSf : Hid (StrRow w6 (.slice af nf cf) (Pl.addN [] ([] ++ []))) := hrf6.row cf
  have HSb : Hid (StrRow w6 (.slice ab nb cb) (Pl.addN [] [])) := hrb6.row cb
  have hFl : Hid ((Pl.addN [] ([] ++ [])).length ≤ 100000) := by
    show _ ≤ _
    rw [← HNf.out]; omega
  have hBl : Hid ((Pl.addN [] []).length ≤ 100000) := by
    show _ ≤ _
    rw [← HNb.out]; omega
  clear hq6
  go_wp2_with fail
  refine (dne2 _ [] nb w6 HSm.out (by simp) HNb.out).mono ?_
  rintro e w7 ⟨rfl, rfl⟩
  go_wp2_with fail
  refine (dne2 _ ([] ++ []) nf w6 HSq.out (by simp) HNf.out).mono ?_
  rintro e w7 ⟨rfl, rfl⟩
  rcases hrf6.2 with hF0 | ⟨bf, of, rfl, hFc⟩
  · have hB0 : nb = 0 := by omega
    clear HFr HBk HNb HNf HSf HSb hrf6 hrb6
    subst hF0; subst hB0
    go_wp2_with fail
    refine wp_loop_rounds 1 ?_
    rw [rounds_succ]
    go_wp2_with fail
    refine wp_loop_rounds 1 ?_
    rw [rounds_succ]
    go_wp2_with fail
    go_ret
    exact ⟨rfl, hbel6⟩
  · have HFc : Hid (∀ i, i < nf → w6.cell? ⟨bf, of + i, none⟩ = some (.string ((Pl.addN [] ([] ++ [])).getD i ByteArray.empty))) := hFc
    clear hFc
    rcases hrb6.2 with hB0 | ⟨bb, ob, rfl, hBc⟩
    · clear HFr HNb HSb hrb6 hrf6
      subst hB0
      go_wp2_with fail
      refine wp_loop_rounds 1 ?_
      rw [rounds_succ]
      go_wp2_with fail
      go_loop [13, 14] (fun t i => ∃ (k : Nat) (l : Int), 0 ≤ k ∧ k ≤ nf ∧ i = .int .i64 k ∧ t = .int .i64 l ∧ (k < nf → l < Lib.idxOfS ([] ++ []) ((Pl.addN [] ([] ++ [])).getD k ByteArray.empty))) (fun _ i => nf - (intOf i).toNat)
      case atStart => exact ⟨0, -1, Nat.le_refl _, Nat.zero_le _, rfl, rfl, fun h => by have := (HBk.out 0 (Nat.le_refl _) h).2.2.2.1; omega⟩
      case round =>
        obtain ⟨k, l, hk0, hk, rfl, rfl, hl⟩ := hrel
        by_cases hlt : k < nf
        · have hfk := HBk.out k hk0 hlt
          have hlk := hl hlt
          have HNx : Hid (k + 1 < nf → Lib.idxOfS ([] ++ []) ((Pl.addN [] ([] ++ [])).getD k ByteArray.empty) < Lib.idxOfS ([] ++ []) ((Pl.addN [] ([] ++ [])).getD (k + 1) ByteArray.empty)) := fun h => hfk.2.2.2.2 (k + 1) (by omega) h
          have hck := HFc.out k hlt
          obtain ⟨x, hx⟩ : ∃ x, (Pl.addN [] ([] ++ [])).getD k ByteArray.empty = x := ⟨_, rfl⟩
          rw [hx] at hfk hlk HNx hck
          obtain ⟨f0, f1, f2, f3, _⟩ := hfk
          unfold Pl.emp at f0
          have F1 : Hid (Lib.idxOfS [] x = -1) := f1
          have F2 : Hid (Lib.idxOfS (Pl.addN [] ([] ++ [])) x = k) := f2
          clear f1 f2 hx hl
          generalize hz : Lib.idxOfS ([] ++ []) x = z at *
          have HZz : Hid (Lib.idxOfS ([] ++ []) x = z) := hz
          clear hz
          have g1 : decide (z < 0) = false := decide_eq_false (by omega)
          have g2 : decide (z ≤ l) = false := decide_eq_false (by omega)
          go_wp2_with fail
          refine (first2 _ [] x (-1) w6 HSm.out (by simp) F1.out).mono ?_
          rintro e w8 ⟨rfl, hw8⟩
          obtain rfl : w6 = w8 := hw8.symm
          go_wp2_with fail
          refine (first2 _ (Pl.addN [] ([] ++ [])) x k w6 HSf.out hFl.out F2.out).mono ?_
          rintro e w8 ⟨rfl, hw8⟩
          obtain rfl : w6 = w8 := hw8.symm
          go_wp2_with fail
          refine (first2 _ ([] ++ []) x z w6 HSq.out (by simp) HZz.out).mono ?_
          rintro e w8 ⟨rfl, hw8⟩
          obtain rfl : w6 = w8 := hw8.symm
          go_wp2_with fail
          go_round
          case rel => exact ⟨k + 1, z, by omega, by omega, by go_num, rfl, HNx.out⟩
          case measure => simp [intOf]; omega
        · obtain rfl : nf = k := by omega
          go_wp2_with fail
          go_ret
          exact ⟨rfl, hbel6⟩
    · have HBc : Hid (∀ i, i < nb → w6.cell? ⟨bb, ob + i, none⟩ = some (.string ((Pl.addN [] []).getD i ByteArray.empty))) := hBc
      clear hBc hrb6 hrf6
      go_wp2_with fail
      go_loopw [12] (fun i wr => ∃ k : Nat, k ≤ nb ∧ i = .int .i64 k ∧ Below w6.heap.size w6 wr) (fun i _ => nb - (intOf i).toNat)
      case atStart => exact ⟨0, Nat.zero_le _, rfl, Below.refl _ _⟩
      case round =>
        obtain ⟨k, hk, rfl, hbw⟩ := hrel
        by_cases hlt : k < nb
        · obtain ⟨f0, f1, f2, f3⟩ := HFr.out k hlt
          have hcb := (hbw.cell (p := ⟨bb, ob + k, none⟩) (cell_lt (HBc.out k hlt))).trans (HBc.out k hlt)
          have hcf := (hbw.cell (p := ⟨bf, of + k, none⟩) (cell_lt (HFc.out k (by omega)))).trans (HFc.out k (by omega))
          have HSmr : Hid (StrRow wr (Value.slice ao 0 cap) []) := HSm.out.below hbw
          have HSbr : Hid (StrRow wr (.slice (some ⟨bb, ob, none⟩) nb cb) (Pl.addN [] [])) := HSb.out.below hbw
          rw [f1] at hcf
          obtain ⟨x, hx⟩ : ∃ x, (Pl.addN [] []).getD k ByteArray.empty = x := ⟨_, rfl⟩
          rw [hx] at f0 f2 f3 hcb hcf
          clear f1 hx
          unfold Pl.emp at f0
          have F3 : Hid (Lib.idxOfS (Pl.addN [] []) x = k) := f3
          clear f3
          generalize hz : Lib.idxOfS [] x = z at *
          have HZz : Hid (Lib.idxOfS [] x = z) := hz
          clear hz
          have g1 : decide (z < 0) = false := decide_eq_false (by omega)
          have hlb : (k : Int) < (nb : Int) := by omega
          have hlf : (k : Int) < (nf : Int) := by omega
          go_wp2_with fail
          go_quiet (first | (go_at_call_of 18 (Value.slice ao 0 cap); exact Calls.quiet_of_same (first2 _ [] x z _ HSmr.out.drewN (by simp) HZz.out)) | (go_at_call_of 18 (Value.slice (some ⟨bb, ob, none⟩) nb cb); exact Calls.quiet_of_same (first2 _ (Pl.addN [] []) x k _ HSbr.out.drewN hBl.out F3.out)))
          go_wp2_with fail
          go_roundw
          case rel => exact ⟨k + 1, by omega, by go_num, hbw.trans ((below_drewN' _ _).mono hbw.size)⟩
          case measure => simp [intOf]; omega
        · obtain rfl : nb = k := by omega
          have hbel7 : Below w.heap.size w wr := hbel6.trans (hbw.mono hbel6.size)
          have HFc7 : Hid (∀ i, i < nf → wr.cell? ⟨bf, of + i, none⟩ = some (.string ((Pl.addN [] ([] ++ [])).getD i ByteArray.empty))) := fun i hi => (hbw.cell (p := ⟨bf, of + i, none⟩) (cell_lt (HFc.out i hi))).trans (HFc.out i hi)
          have HSm7 : Hid (StrRow wr (Value.slice ao 0 cap) []) := HSm.out.below hbw
          have HSf7 : Hid (StrRow wr (.slice (some ⟨bf, of, none⟩) nf cf) (Pl.addN [] ([] ++ []))) := HSf.out.below hbw
          have HSq7 : Hid (StrRow wr uq ([] ++ [])) := HSq.out.below hbw
          clear HFc HSm HSf HSq HSb HBc HFr hbel6 hbw
          go_wp2_with fail
          go_loop [13, 14] (fun t i => ∃ (k : Nat) (l : Int), nb ≤ k ∧ k ≤ nf ∧ i = .int .i64 k ∧ t = .int .i64 l ∧ (k < nf → l < Lib.idxOfS ([] ++ []) ((Pl.addN [] ([] ++ [])).getD k ByteArray.empty))) (fun _ i => nf - (intOf i).toNat)
          case atStart => exact ⟨nb, -1, Nat.le_refl _, hle, rfl, rfl, fun h => by have := (HBk.out nb (Nat.le_refl _) h).2.2.2.1; omega⟩
          case round =>
            obtain ⟨k, l, hk0, hk, rfl, rfl, hl⟩ := hrel
            by_cases hlt : k < nf
            · have hfk := HBk.out k hk0 hlt
              have hlk := hl hlt
              have HNx : Hid (k + 1 < nf → Lib.idxOfS ([] ++ []) ((Pl.addN [] ([] ++ [])).getD k ByteArray.empty) < Lib.idxOfS ([] ++ []) ((Pl.addN [] ([] ++ [])).getD (k + 1) ByteArray.empty)) := fun h => hfk.2.2.2.2 (k + 1) (by omega) h
              have hck := HFc7.out k hlt
              obtain ⟨x, hx⟩ : ∃ x, (Pl.addN [] ([] ++ [])).getD k ByteArray.empty = x := ⟨_, rfl⟩
              rw [hx] at hfk hlk HNx hck
              obtain ⟨f0, f1, f2, f3, _⟩ := hfk
              unfold Pl.emp at f0
              have F1 : Hid (Lib.idxOfS [] x = -1) := f1
              have F2 : Hid (Lib.idxOfS (Pl.addN [] ([] ++ [])) x = k) := f2
              clear f1 f2 hx hl
              generalize hz : Lib.idxOfS ([] ++ []) x = z at *
              have HZz : Hid (Lib.idxOfS ([] ++ []) x = z) := hz
              clear hz
              have g1 : decide (z < 0) = false := decide_eq_false (by omega)
              have g2 : decide (z ≤ l) = false := decide_eq_false (by omega)
              go_wp2_with fail
              refine (first2 _ [] x (-1) wr HSm7.out (by simp) F1.out).mono ?_
              rintro e w8 ⟨rfl, hw8⟩
              obtain rfl : wr = w8 := hw8.symm
              go_wp2_with fail
              refine (first2 _ (Pl.addN [] ([] ++ [])) x k wr HSf7.out hFl.out F2.out).mono ?_
              rintro e w8 ⟨rfl, hw8⟩
              obtain rfl : wr = w8 := hw8.symm
              go_wp2_with fail
              refine (first2 _ ([] ++ []) x z wr HSq7.out (by simp) HZz.out).mono ?_
              rintro e w8 ⟨rfl, hw8⟩
              obtain rfl : wr = w8 := hw8.symm
              go_wp2_with fail
              go_round
              case rel => exact ⟨k + 1, z, by omega, by omega, by go_num, rfl, HNx.out⟩
              case measure => simp [intOf]; omega
            · obtain rfl : nf = k := by omega
              go_wp2_with fail
              go_ret
              exact ⟨rfl, hbel7⟩

end Go.Proofs.Qxb6605753a
