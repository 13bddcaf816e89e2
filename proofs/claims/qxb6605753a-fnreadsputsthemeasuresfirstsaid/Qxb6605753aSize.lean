/-
  condSize: it calls itself.
-/
import Derived.Test.Qxb6605753aTree
namespace Go.Proofs.Qxb6605753a
open Go.RowKit

/-- What condSize answers of a tree of N nodes. -/
def Sized (nodes : Int) (N : Nat) (n' s' : Int) : Prop := 0 ≤ n' ∧ n' ≤ 4097 ∧ 0 ≤ s' ∧ s' ≤ 8388608 ∧ (4096 < n' ∨ 1048576 < s' ∨ n' = nodes + N)

set_option maxHeartbeats 1000000 in
set_option maxRecDepth 100000 in
theorem condSize_any (R : Nat → Prop) (d : Nat) : ∀ (w : World) (v0 v1 v2 v3 : Value) (seq : List ByteArray) (N : Nat) (nodes size fuel : Int), ZT w R d v0 v1 v2 v3 seq N → (∀ b, R b → b < w.heap.size) →
    0 ≤ nodes → nodes ≤ 4096 → 0 ≤ size → size ≤ 1048576 → 0 ≤ fuel → fuel ≤ 4097 →
    Calls Try.prog 12 #[.agg #[v0, v1, v2, v3], .int .i64 nodes, .int .i64 size, .int .i64 fuel] w fun e w' => ∃ n' s' : Int, e = .returned (.tuple #[.int .i64 n', .int .i64 s']) ∧ Below w.heap.size w w' ∧ Sized nodes N n' s' := by
  induction d with
  | zero => intro _ _ _ _ _ _ _ _ _ _ h; exact h.elim
  | succ d ih =>
    rintro w v0 v1 v2 v3 seq N nodes size fuel ⟨m, a, x, ao, len, cap, S, M, rfl, rfl, rfl, rfl, es, eN, hc⟩ hR n0 n1 s0 s1 f0 f1
    have HEN : Hid (N = 1 + tot M len) := eN
    clear es eN
    have IH : Hid (∀ (w : World) (v0 v1 v2 v3 : Value) (seq : List ByteArray) (N : Nat) (nodes size fuel : Int), ZT w R d v0 v1 v2 v3 seq N → (∀ b, R b → b < w.heap.size) →
      0 ≤ nodes → nodes ≤ 4096 → 0 ≤ size → size ≤ 1048576 → 0 ≤ fuel → fuel ≤ 4097 →
      Calls Try.prog 12 #[.agg #[v0, v1, v2, v3], .int .i64 nodes, .int .i64 size, .int .i64 fuel] w fun e w' => ∃ n' s' : Int, e = .returned (.tuple #[.int .i64 n', .int .i64 s']) ∧ Below w.heap.size w w' ∧ Sized nodes N n' s') := ih
    clear ih
    have HR : Hid (∀ b, R b → b < w.heap.size) := hR
    clear hR
    have HK : Hid (len = 0 ∨ ∃ b off, ao = some ⟨b, off, none⟩ ∧ R b ∧ ∀ i, i < len → ∃ u0 u1 u2 u3,
        (w.cell? ⟨b, off + i * 4, none⟩ = some u0 ∧ w.cell? ⟨b, off + i * 4 + 1, none⟩ = some u1 ∧ w.cell? ⟨b, off + i * 4 + 2, none⟩ = some u2 ∧ w.cell? ⟨b, off + i * 4 + 3, none⟩ = some u3) ∧
        ZT w R d u0 u1 u2 u3 (S i) (M i)) := hc
    clear hc
    by_cases hf : fuel ≤ 0
    · go_enter Try.func12, Try.ntmps12
      go_wp2_with fail
      go_ret2
      exact ⟨4097, size, rfl, (Below.refl _ _).alloc (Nat.le_refl _) _, by unfold Sized; omega⟩
    by_cases g1 : (1048576 : Int) < m.size
    · go_enter Try.func12, Try.ntmps12
      go_wp2_with fail
      go_ret2
      exact ⟨4097, size, rfl, (Below.refl _ _).alloc (Nat.le_refl _) _, by unfold Sized; omega⟩
    by_cases g2 : (1048576 : Int) < a.size
    · go_enter Try.func12, Try.ntmps12
      go_wp2_with fail
      go_ret2
      exact ⟨4097, size, rfl, (Below.refl _ _).alloc (Nat.le_refl _) _, by unfold Sized; omega⟩
    by_cases g3 : (4096 : Int) < len
    · go_enter Try.func12, Try.ntmps12
      go_wp2_with fail
      go_ret2
      exact ⟨4097, size, rfl, (Below.refl _ _).alloc (Nat.le_refl _) _, by unfold Sized; omega⟩
    by_cases g4 : (4096 : Int) < nodes + 1 ∨ (1048576 : Int) < size + (m.size + a.size + 64 * len)
    · go_enter Try.func12, Try.ntmps12
      go_wp2_with fail
      all_goals
        go_ret2
        exact ⟨nodes + 1, size + (m.size + a.size + 64 * len), rfl, (Below.refl _ _).alloc (Nat.le_refl _) _, by unfold Sized; omega⟩
    have d1 : decide ((4096 : Int) < nodes + 1) = false := decide_eq_false (by omega)
    have d2 : decide ((1048576 : Int) < size + (m.size + a.size + 64 * len)) = false := decide_eq_false (by omega)
    have b1 : nodes + 1 ≤ 4096 := by omega
    have b2 : size + (m.size + a.size + 64 * len) ≤ 1048576 := by omega
    clear g4
    rcases HK.out with rfl | ⟨b, off, rfl, hb, hch⟩
    · go_enter Try.func12, Try.ntmps12
      go_wp2_with fail
      refine wp_loop_rounds 1 ?_
      rw [rounds_succ]
      go_wp2_with fail
      go_ret2
      exact ⟨nodes + 1, size + (m.size + a.size + 64 * (0 : Nat)), by simp, (Below.refl _ _).alloc (Nat.le_refl _) _, by
        have := HEN.out
        simp only [tot] at this
        subst this
        unfold Sized; omega⟩
    · have HCH : Hid (∀ i, i < len → ∃ u0 u1 u2 u3,
        (w.cell? ⟨b, off + i * 4, none⟩ = some u0 ∧ w.cell? ⟨b, off + i * 4 + 1, none⟩ = some u1 ∧ w.cell? ⟨b, off + i * 4 + 2, none⟩ = some u2 ∧ w.cell? ⟨b, off + i * 4 + 3, none⟩ = some u3) ∧
        ZT w R d u0 u1 u2 u3 (S i) (M i)) := hch
      clear hch HK
      have HB : Hid (R b) := hb
      clear hb
      go_enter Try.func12, Try.ntmps12
      go_wp2_with fail
      go_loopw [1, 2, 10] (fun n s i wr => ∃ (k : Nat) (nk sk : Int), k ≤ len ∧ i = .int .i64 k ∧ n = .int .i64 nk ∧ s = .int .i64 sk ∧ nk = nodes + 1 + tot M k ∧ nk ≤ 4096 ∧ 0 ≤ sk ∧ sk ≤ 1048576 ∧ Below (w.heap.size + 1) (w.alloc (.cells #[.string m, .string a, .bool x, .slice (some ⟨b, off, none⟩) len cap] 44)) wr) (fun _ _ i _ => len - (intOf i).toNat)
      case atStart => exact ⟨0, _, _, Nat.zero_le _, rfl, rfl, rfl, by simp [tot], b1, by omega, b2, Below.refl _ _⟩
      case round =>
        obtain ⟨k, nk, sk, hk, rfl, rfl, rfl, hnk, hn4, hs0, hs1, hnx⟩ := hrel
        have hn0 : 0 ≤ nk := by omega
        have HNK : Hid (nk = nodes + 1 + tot M k) := hnk
        clear hnk
        have hbox : wr.cell? ⟨w.heap.size, 3, none⟩ = some (.slice (some ⟨b, off, none⟩) len cap) := (hnx.cell (p := ⟨w.heap.size, 3, none⟩) (by show w.heap.size < w.heap.size + 1; omega)).trans (by simp [go_sem])
        by_cases hlt : k < len
        · have hbw : b < w.heap.size := HR.out b HB.out
          obtain ⟨u0, u1, u2, u3, ⟨c0, c1, c2, c3⟩, ht⟩ := HCH.out k hlt
          have get : ∀ o v, w.cell? ⟨b, o, none⟩ = some v → wr.cell? ⟨b, o, none⟩ = some v := fun o v h => (hnx.cell (p := ⟨b, o, none⟩) (by show b < w.heap.size + 1; omega)).trans ((World.cell?_alloc_lt (a := ⟨b, o, none⟩) _ _ hbw).trans h)
          have e0 := get _ _ c0
          have e1 := get _ _ c1
          have e2 := get _ _ c2
          have e3 := get _ _ c3
          have hbel : Below w.heap.size w wr := ((Below.refl _ _).alloc (Nat.le_refl _) _).trans (hnx.mono (by omega))
          have htr : Hid (ZT wr R d u0 u1 u2 u3 (S k) (M k)) := ht.kept (Kept.below hbel HR.out)
          have hRr : Hid (∀ b, R b → b < wr.heap.size) := fun b h => Nat.lt_of_lt_of_le (HR.out b h) hbel.size
          clear get c0 c1 c2 c3 ht hbw
          go_wp2_with fail
          refine (IH.out wr u0 u1 u2 u3 (S k) (M k) nk sk (fuel - 1) htr.out hRr.out hn0 hn4 hs0 hs1 (by omega) (by omega)).mono ?_
          rintro e w1 ⟨n', s', rfl, hb1, hsz⟩
          obtain ⟨z0, z1, z2, z3, hz⟩ := hsz
          have hbel1 : Below w.heap.size w w1 := hbel.trans (hb1.mono hbel.size)
          have hnx1 : Below (w.heap.size + 1) (w.alloc (.cells #[.string m, .string a, .bool x, .slice (some ⟨b, off, none⟩) len cap] 44)) w1 := hnx.trans (hb1.mono (by have := hnx.size; simp at this; omega))
          clear hb1 htr hRr hbel hnx hbox e0 e1 e2 e3
          have HZ : Hid (4096 < n' ∨ 1048576 < s' ∨ n' = nk + M k) := hz
          clear hz
          by_cases q1 : 4096 < n'
          · go_wp2_with fail
            go_ret2
            exact ⟨n', s', rfl, hbel1, by unfold Sized; omega⟩
          by_cases q2 : 1048576 < s'
          · have q3 : decide (4096 < n') = false := decide_eq_false q1
            go_wp2_with fail
            go_ret2
            exact ⟨n', s', rfl, hbel1, by unfold Sized; omega⟩
          have q3 : decide (4096 < n') = false := decide_eq_false q1
          have q4 : decide (1048576 < s') = false := decide_eq_false q2
          go_wp2_with fail
          go_roundw
          case rel =>
            have h1 := HZ.out
            have h2 := HNK.out
            exact ⟨k + 1, n', s', by omega, by go_num, rfl, rfl, by simp only [tot]; omega, by omega, z2, by omega, hnx1⟩
          case measure => simp [intOf]; omega
        · obtain rfl : len = k := by omega
          have hbel : Below w.heap.size w wr := ((Below.refl _ _).alloc (Nat.le_refl _) _).trans (hnx.mono (by omega))
          go_wp2_with fail
          go_ret2
          have h1 := HNK.out
          have h2 := HEN.out
          exact ⟨nk, sk, rfl, hbel, by unfold Sized; omega⟩
end Go.Proofs.Qxb6605753a
