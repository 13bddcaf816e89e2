/-
  THE LAW 'FnReadsNamesEachMetricOnceInFirstOrder': its walk.
-/
import Derived.Test.Qxb6605753aGate
import Derived.Test.Qxb6605753aSize
namespace Go.Proofs.Qxb6605753a
open Go.RowKit Go.Deep

set_option maxHeartbeats 1000000 in
set_option maxRecDepth 100000 in
theorem law5_c (b off n cap : Nat) (ms : List ByteArray) (HL : Hid (ms.length = n)) (w : World) (hc : ∀ k, k < n → w.cell? ⟨b, off + k, none⟩ = some (.string (ms.getD k ByteArray.empty))) (hn : n ≤ 4096) :
    Calls Try.prog 5 #[.slice (some ⟨b, off, none⟩) n cap, .pointer none] w fun e w' => e = .returned (.bool true) ∧ Below w.heap.size w w' := by
  have HC : Hid (∀ k, k < n → w.cell? ⟨b, off + k, none⟩ = some (.string (ms.getD k ByteArray.empty))) := hc
  have HS : Hid (StrRow w (.slice (some ⟨b, off, none⟩) n cap) ms) := ⟨_, cap, by rw [HL.out], .inr ⟨b, off, rfl, fun i hi => hc i (by rw [← HL.out]; exact hi)⟩⟩
  clear hc
  have d0 : decide ((4096 : Int) < (n : Int)) = false := decide_eq_false (by omega)
  have HZ : Hid (ZPtr w (fun _ => False) (.pointer none) [] 0) := .inl ⟨rfl, rfl, rfl⟩
  have HR : Hid (∀ b, (fun _ => False) b → b < w.heap.size) := fun b hb => hb.elim
  go_enter Try.func5, Try.ntmps5
  go_wp2_with fail
  go_loop [5, 6] (fun s i => ∃ (k : Nat) (sk : Int), k ≤ n ∧ i = .int .i64 k ∧ s = .int .i64 sk ∧ 0 ≤ sk ∧ sk ≤ 1048576) (fun _ i => n - (intOf i).toNat)
  case atStart => exact ⟨0, 0, Nat.zero_le _, rfl, rfl, by omega, by omega⟩
  case round =>
    obtain ⟨k, sk, hk, rfl, rfl, hs0, hs1⟩ := hrel
    by_cases hlt : k < n
    · have hck := HC.out k hlt
      obtain ⟨x, hx⟩ : ∃ x, ms.getD k ByteArray.empty = x := ⟨_, rfl⟩
      rw [hx] at hck
      clear hx
      by_cases g1 : (1048576 : Int) < x.size
      · go_wp2_with fail
        go_ret
        exact ⟨rfl, Below.refl _ _⟩
      by_cases g2 : (1048576 : Int) < sk + (16 + x.size)
      · go_wp2_with fail
        go_ret
        exact ⟨rfl, Below.refl _ _⟩
      · go_wp2_with fail
        go_round
        case rel => exact ⟨k + 1, sk + (16 + x.size), by omega, by go_num, rfl, by omega, by omega⟩
        case measure => simp [intOf]; omega
    · obtain rfl : n = k := by omega
      have hb1 : Below w.heap.size w w := Below.refl _ _
      have hNN : 0 ≤ 4096 := by omega
      go_wp2_with fail
      refine (build_any _ ms w (HS.out.below hb1) (by rw [HL.out]; omega)).mono ?_
      rintro e w2 ⟨u, rfl, hm2, hb2, _⟩
      have hbel2 : Below w.heap.size w w2 := hb1.trans (hb2.mono hb1.size)
      clear hb2
      go_wp2_with fail
      refine (require_any _ [] 0 (fun _ => False) w2 (HZ.out.kept (Kept.below hbel2 HR.out)) (fun b hb => Nat.lt_of_lt_of_le (HR.out b hb) hbel2.size) hNN).mono ?_
      rintro e w3 ⟨u3, rfl, hc3, hb3⟩
      have hbel3 : Below w.heap.size w w3 := hbel2.trans (hb3.mono hbel2.size)
      have hm3 := hm2.below hb3
      clear hb3 hm2
      go_wp2_with fail
      refine (gate_any u u3 ms [] _ w3 hm3 hc3 (fun b hb => hb.2) (by rw [HL.out]; simp; omega)).mono ?_
      rintro e w4 ⟨u4, rfl, hg4, hb4⟩
      have hbel4 : Below w.heap.size w w4 := hbel3.trans (hb4.mono hbel3.size)
      clear hb4 hm3 hc3
      go_wp2_with fail
      refine (readSeq_any _ _ ms [] 0 (fun _ => False) w4 (HS.out.below hbel4) (HZ.out.kept (Kept.below hbel4 HR.out)) (fun b hb => Nat.lt_of_lt_of_le (HR.out b hb) hbel4.size) (by rw [HL.out]; exact hn) hNN).mono ?_
      rintro e w5 ⟨u5, rfl, hs5, hb5⟩
      have hbel5 : Below w.heap.size w w5 := hbel4.trans (hb5.mono hbel4.size)
      have hg5 := hg4.below hb5
      clear hb5 hg4
      go_wp2_with fail
      refine (once_any u4 u5 (ms ++ []) _ w5 hg5 hs5 (by rw [List.length_append, HL.out]; simp; omega) (Pl.gath_all _)).mono ?_
      rintro e w6 ⟨rfl, hw6⟩
      obtain rfl : w5 = w6 := hw6.symm
      go_wp2_with fail
      go_ret
      exact ⟨rfl, hbel5⟩

set_option maxHeartbeats 1000000 in
set_option maxRecDepth 100000 in
theorem law5_d (b off n cap : Nat) (ms : List ByteArray) (HL : Hid (ms.length = n)) (seq : List ByteArray) (N p o d : Nat) (z0 z1 z2 z3 : Value) (R : Nat → Prop) (w : World) (hc : ∀ k, k < n → w.cell? ⟨b, off + k, none⟩ = some (.string (ms.getD k ByteArray.empty))) (hn : n ≤ 4096)
    (HR : Hid (∀ b, R b → b < w.heap.size)) (hp : R p) (c0 : w.cell? ⟨p, o, none⟩ = some z0) (c1 : w.cell? ⟨p, o + 1, none⟩ = some z1) (c2 : w.cell? ⟨p, o + 2, none⟩ = some z2) (c3 : w.cell? ⟨p, o + 3, none⟩ = some z3) (ht : ZT w R d z0 z1 z2 z3 seq N) :
    Calls Try.prog 5 #[.slice (some ⟨b, off, none⟩) n cap, .pointer (some ⟨p, o, none⟩)] w fun e w' => e = .returned (.bool true) ∧ Below w.heap.size w w' := by
  have HC : Hid (∀ k, k < n → w.cell? ⟨b, off + k, none⟩ = some (.string (ms.getD k ByteArray.empty))) := hc
  have HS : Hid (StrRow w (.slice (some ⟨b, off, none⟩) n cap) ms) := ⟨_, cap, by rw [HL.out], .inr ⟨b, off, rfl, fun i hi => hc i (by rw [← HL.out]; exact hi)⟩⟩
  clear hc
  have d0 : decide ((4096 : Int) < (n : Int)) = false := decide_eq_false (by omega)
  have HZ : Hid (ZPtr w R (.pointer (some ⟨p, o, none⟩)) seq N) := .inr ⟨p, o, d, z0, z1, z2, z3, rfl, hp, c0, c1, c2, c3, ht⟩
  have HT : Hid (ZT w R d z0 z1 z2 z3 seq N) := ht
  have CC : Hid (w.cell? ⟨p, o, none⟩ = some z0 ∧ w.cell? ⟨p, o + 1, none⟩ = some z1 ∧ w.cell? ⟨p, o + 2, none⟩ = some z2 ∧ w.cell? ⟨p, o + 3, none⟩ = some z3) := ⟨c0, c1, c2, c3⟩
  have HNm : Hid (seq.length = 2 * N) := ht.names
  clear hp ht c0 c1 c2 c3
  go_enter Try.func5, Try.ntmps5
  go_wp2_with fail
  go_loop [5, 6] (fun s i => ∃ (k : Nat) (sk : Int), k ≤ n ∧ i = .int .i64 k ∧ s = .int .i64 sk ∧ 0 ≤ sk ∧ sk ≤ 1048576) (fun _ i => n - (intOf i).toNat)
  case atStart => exact ⟨0, 0, Nat.zero_le _, rfl, rfl, by omega, by omega⟩
  case round =>
    obtain ⟨k, sk, hk, rfl, rfl, hs0, hs1⟩ := hrel
    by_cases hlt : k < n
    · have hck := HC.out k hlt
      obtain ⟨x, hx⟩ : ∃ x, ms.getD k ByteArray.empty = x := ⟨_, rfl⟩
      rw [hx] at hck
      clear hx
      by_cases g1 : (1048576 : Int) < x.size
      · go_wp2_with fail
        go_ret
        exact ⟨rfl, Below.refl _ _⟩
      by_cases g2 : (1048576 : Int) < sk + (16 + x.size)
      · go_wp2_with fail
        go_ret
        exact ⟨rfl, Below.refl _ _⟩
      · go_wp2_with fail
        go_round
        case rel => exact ⟨k + 1, sk + (16 + x.size), by omega, by go_num, rfl, by omega, by omega⟩
        case measure => simp [intOf]; omega
    · obtain rfl : n = k := by omega
      have e0 := CC.out.1
      have e1 := CC.out.2.1
      have e2 := CC.out.2.2.1
      have e3 := CC.out.2.2.2
      go_wp2_with fail
      refine (condSize_any R d w z0 z1 z2 z3 seq N 0 sk 4097 HT.out HR.out (by omega) (by omega) (by omega) (by omega) (by omega) (by omega)).mono ?_
      rintro e w1 ⟨n', s', rfl, hb1, hsz⟩
      clear e0 e1 e2 e3
      obtain ⟨q0, q1, q2, q3, hq⟩ := hsz
      have HQ : Hid (4096 < n' ∨ 1048576 < s' ∨ n' = 0 + N) := hq
      clear hq
      by_cases g1 : 4096 < n'
      · go_wp2_with fail
        go_ret
        exact ⟨rfl, hb1⟩
      have g1' : decide (4096 < n') = false := decide_eq_false g1
      by_cases g2 : 1048576 < s'
      · go_wp2_with fail
        go_ret
        exact ⟨rfl, hb1⟩
      have g2' : decide (1048576 < s') = false := decide_eq_false g2
      obtain rfl : n' = (N : Int) := by
        have := HQ.out
        omega
      have hNN : N ≤ 4096 := by omega
      go_wp2_with fail
      refine (build_any _ ms w1 (HS.out.below hb1) (by rw [HL.out]; omega)).mono ?_
      rintro e w2 ⟨u, rfl, hm2, hb2, _⟩
      have hbel2 : Below w.heap.size w w2 := hb1.trans (hb2.mono hb1.size)
      clear hb2
      go_wp2_with fail
      refine (require_any _ seq N R w2 (HZ.out.kept (Kept.below hbel2 HR.out)) (fun b hb => Nat.lt_of_lt_of_le (HR.out b hb) hbel2.size) hNN).mono ?_
      rintro e w3 ⟨u3, rfl, hc3, hb3⟩
      have hbel3 : Below w.heap.size w w3 := hbel2.trans (hb3.mono hbel2.size)
      have hm3 := hm2.below hb3
      clear hb3 hm2
      go_wp2_with fail
      refine (gate_any u u3 ms seq _ w3 hm3 hc3 (fun b hb => hb.2) (by rw [HL.out, HNm.out]; omega)).mono ?_
      rintro e w4 ⟨u4, rfl, hg4, hb4⟩
      have hbel4 : Below w.heap.size w w4 := hbel3.trans (hb4.mono hbel3.size)
      clear hb4 hm3 hc3
      go_wp2_with fail
      refine (readSeq_any _ _ ms seq N R w4 (HS.out.below hbel4) (HZ.out.kept (Kept.below hbel4 HR.out)) (fun b hb => Nat.lt_of_lt_of_le (HR.out b hb) hbel4.size) (by rw [HL.out]; exact hn) hNN).mono ?_
      rintro e w5 ⟨u5, rfl, hs5, hb5⟩
      have hbel5 : Below w.heap.size w w5 := hbel4.trans (hb5.mono hbel4.size)
      have hg5 := hg4.below hb5
      clear hb5 hg4
      go_wp2_with fail
      refine (once_any u4 u5 (ms ++ seq) _ w5 hg5 hs5 (by rw [List.length_append, HL.out, HNm.out]; omega) (Pl.gath_all _)).mono ?_
      rintro e w6 ⟨rfl, hw6⟩
      obtain rfl : w5 = w6 := hw6.symm
      go_wp2_with fail
      go_ret
      exact ⟨rfl, hbel5⟩

set_option maxHeartbeats 1000000 in
set_option maxRecDepth 100000 in
theorem law5_a (ao : Option Addr) (cap : Nat) (w : World) :
    Calls Try.prog 5 #[.slice ao 0 cap, .pointer none] w fun e w' => e = .returned (.bool true) ∧ Below w.heap.size w w' := by
  have HS : Hid (StrRow w (.slice ao 0 cap) []) := ⟨_, cap, rfl, .inl rfl⟩
  have HZ : Hid (ZPtr w (fun _ => False) (.pointer none) [] 0) := .inl ⟨rfl, rfl, rfl⟩
  have HR : Hid (∀ b, (fun _ => False) b → b < w.heap.size) := fun b hb => hb.elim
  go_enter Try.func5, Try.ntmps5
  go_wp2_with fail
  refine wp_loop_rounds 1 ?_
  rw [rounds_succ]
  have hb1 : Below w.heap.size w w := Below.refl _ _
  have hNN : 0 ≤ 4096 := by omega
  go_wp2_with fail
  refine (build_any _ [] w (HS.out.below hb1) (by simp)).mono ?_
  rintro e w2 ⟨u, rfl, hm2, hb2, _⟩
  have hbel2 : Below w.heap.size w w2 := hb1.trans (hb2.mono hb1.size)
  clear hb2
  go_wp2_with fail
  refine (require_any _ [] 0 (fun _ => False) w2 (HZ.out.kept (Kept.below hbel2 HR.out)) (fun b hb => Nat.lt_of_lt_of_le (HR.out b hb) hbel2.size) hNN).mono ?_
  rintro e w3 ⟨u3, rfl, hc3, hb3⟩
  have hbel3 : Below w.heap.size w w3 := hbel2.trans (hb3.mono hbel2.size)
  have hm3 := hm2.below hb3
  clear hb3 hm2
  go_wp2_with fail
  refine (gate_any u u3 [] [] _ w3 hm3 hc3 (fun b hb => hb.2) (by simp)).mono ?_
  rintro e w4 ⟨u4, rfl, hg4, hb4⟩
  have hbel4 : Below w.heap.size w w4 := hbel3.trans (hb4.mono hbel3.size)
  clear hb4 hm3 hc3
  go_wp2_with fail
  refine (readSeq_any _ _ [] [] 0 (fun _ => False) w4 (HS.out.below hbel4) (HZ.out.kept (Kept.below hbel4 HR.out)) (fun b hb => Nat.lt_of_lt_of_le (HR.out b hb) hbel4.size) (by simp) hNN).mono ?_
  rintro e w5 ⟨u5, rfl, hs5, hb5⟩
  have hbel5 : Below w.heap.size w w5 := hbel4.trans (hb5.mono hbel4.size)
  have hg5 := hg4.below hb5
  clear hb5 hg4
  go_wp2_with fail
  refine (once_any u4 u5 ([] ++ []) _ w5 hg5 hs5 (by simp) (Pl.gath_all _)).mono ?_
  rintro e w6 ⟨rfl, hw6⟩
  obtain rfl : w5 = w6 := hw6.symm
  go_wp2_with fail
  go_ret
  exact ⟨rfl, hbel5⟩

set_option maxHeartbeats 1000000 in
set_option maxRecDepth 100000 in
theorem law5_b (ao : Option Addr) (cap : Nat) (seq : List ByteArray) (N p o d : Nat) (z0 z1 z2 z3 : Value) (R : Nat → Prop) (w : World)
    (HR : Hid (∀ b, R b → b < w.heap.size)) (hp : R p) (c0 : w.cell? ⟨p, o, none⟩ = some z0) (c1 : w.cell? ⟨p, o + 1, none⟩ = some z1) (c2 : w.cell? ⟨p, o + 2, none⟩ = some z2) (c3 : w.cell? ⟨p, o + 3, none⟩ = some z3) (ht : ZT w R d z0 z1 z2 z3 seq N) :
    Calls Try.prog 5 #[.slice ao 0 cap, .pointer (some ⟨p, o, none⟩)] w fun e w' => e = .returned (.bool true) ∧ Below w.heap.size w w' := by
  have HS : Hid (StrRow w (.slice ao 0 cap) []) := ⟨_, cap, rfl, .inl rfl⟩
  have HZ : Hid (ZPtr w R (.pointer (some ⟨p, o, none⟩)) seq N) := .inr ⟨p, o, d, z0, z1, z2, z3, rfl, hp, c0, c1, c2, c3, ht⟩
  have HT : Hid (ZT w R d z0 z1 z2 z3 seq N) := ht
  have CC : Hid (w.cell? ⟨p, o, none⟩ = some z0 ∧ w.cell? ⟨p, o + 1, none⟩ = some z1 ∧ w.cell? ⟨p, o + 2, none⟩ = some z2 ∧ w.cell? ⟨p, o + 3, none⟩ = some z3) := ⟨c0, c1, c2, c3⟩
  have HNm : Hid (seq.length = 2 * N) := ht.names
  clear hp ht c0 c1 c2 c3
  go_enter Try.func5, Try.ntmps5
  go_wp2_with fail
  refine wp_loop_rounds 1 ?_
  rw [rounds_succ]
  have e0 := CC.out.1
  have e1 := CC.out.2.1
  have e2 := CC.out.2.2.1
  have e3 := CC.out.2.2.2
  go_wp2_with fail
  refine (condSize_any R d w z0 z1 z2 z3 seq N 0 0 4097 HT.out HR.out (by omega) (by omega) (by omega) (by omega) (by omega) (by omega)).mono ?_
  rintro e w1 ⟨n', s', rfl, hb1, hsz⟩
  clear e0 e1 e2 e3
  obtain ⟨q0, q1, q2, q3, hq⟩ := hsz
  have HQ : Hid (4096 < n' ∨ 1048576 < s' ∨ n' = 0 + N) := hq
  clear hq
  by_cases g1 : 4096 < n'
  · go_wp2_with fail
    go_ret
    exact ⟨rfl, hb1⟩
  have g1' : decide (4096 < n') = false := decide_eq_false g1
  by_cases g2 : 1048576 < s'
  · go_wp2_with fail
    go_ret
    exact ⟨rfl, hb1⟩
  have g2' : decide (1048576 < s') = false := decide_eq_false g2
  obtain rfl : n' = (N : Int) := by
    have := HQ.out
    omega
  have hNN : N ≤ 4096 := by omega
  go_wp2_with fail
  refine (build_any _ [] w1 (HS.out.below hb1) (by simp)).mono ?_
  rintro e w2 ⟨u, rfl, hm2, hb2, _⟩
  have hbel2 : Below w.heap.size w w2 := hb1.trans (hb2.mono hb1.size)
  clear hb2
  go_wp2_with fail
  refine (require_any _ seq N R w2 (HZ.out.kept (Kept.below hbel2 HR.out)) (fun b hb => Nat.lt_of_lt_of_le (HR.out b hb) hbel2.size) hNN).mono ?_
  rintro e w3 ⟨u3, rfl, hc3, hb3⟩
  have hbel3 : Below w.heap.size w w3 := hbel2.trans (hb3.mono hbel2.size)
  have hm3 := hm2.below hb3
  clear hb3 hm2
  go_wp2_with fail
  refine (gate_any u u3 [] seq _ w3 hm3 hc3 (fun b hb => hb.2) (by rw [HNm.out]; simp; omega)).mono ?_
  rintro e w4 ⟨u4, rfl, hg4, hb4⟩
  have hbel4 : Below w.heap.size w w4 := hbel3.trans (hb4.mono hbel3.size)
  clear hb4 hm3 hc3
  go_wp2_with fail
  refine (readSeq_any _ _ [] seq N R w4 (HS.out.below hbel4) (HZ.out.kept (Kept.below hbel4 HR.out)) (fun b hb => Nat.lt_of_lt_of_le (HR.out b hb) hbel4.size) (by simp) hNN).mono ?_
  rintro e w5 ⟨u5, rfl, hs5, hb5⟩
  have hbel5 : Below w.heap.size w w5 := hbel4.trans (hb5.mono hbel4.size)
  have hg5 := hg4.below hb5
  clear hb5 hg4
  go_wp2_with fail
  refine (once_any u4 u5 ([] ++ seq) _ w5 hg5 hs5 (by rw [List.length_append, HNm.out]; simp; omega) (Pl.gath_all _)).mono ?_
  rintro e w6 ⟨rfl, hw6⟩
  obtain rfl : w5 = w6 := hw6.symm
  go_wp2_with fail
  go_ret
  exact ⟨rfl, hbel5⟩

end Go.Proofs.Qxb6605753a
