/-
  condSeq, readSeq.
-/
import Derived.Test.Qxb6605753aReads
namespace Go.Proofs.Qxb6605753a
open Go.RowKit Go.Deep

theorem seq_cat (xs : List ByteArray) (m a : ByteArray) (S : Nat → List ByteArray) (k : Nat) : xs ++ (m :: a :: cat S (k + 1)) = (xs ++ (m :: a :: cat S k)) ++ S k := by simp [cat]

theorem map_str_two (xs : List ByteArray) (x y : ByteArray) : xs.map Value.string ++ [Value.string x, Value.string y] = (xs ++ [x, y]).map Value.string := by simp

theorem two_cells (w : World) (o : Obj) (m a : ByteArray) : ∀ j u, [Value.string m, Value.string a][j]? = some u → ((w.alloc o).alloc (.cells #[.string m, .string a] 9)).cell? ((⟨w.heap.size + 1, 0, none⟩ : Addr).add j) = some u := by
  intro j u h
  match j, h with
  | 0, h => simp at h; subst h; simp [go_sem]
  | 1, h => simp at h; subst h; simp [go_sem]
  | j + 2, h => simp at h

theorem two_one (m a : ByteArray) : ∀ u ∈ [Value.string m, Value.string a], u.oneCell' = true := by
  intro u hu
  simp at hu
  rcases hu with rfl | rfl <;> rfl

theorem two_step {base : Nat} {w w' : World} {v v' : Value} {xs : List ByteArray} {m a : ByteArray} {o1 o2 : Obj} (hown' : w'.ownsRow base 9 1 v' (xs.length + 2) (xs.map Value.string ++ [Value.string m, Value.string a]))
    (hgrow : ((w.alloc o1).alloc o2).grownBy w' v.ownBlock) (hloc : v'.ownBlock = v.ownBlock ∨ v'.ownBlock = some (w.heap.size + 1 + 1)) : NStep base ((w.alloc o1).alloc o2) v w' v' (xs ++ [m, a]) := by
  refine ⟨?_, hgrow, hloc.elim .inl fun h => .inr ⟨_, h, by simp⟩⟩
  show World.ownsRow _ _ _ _ _ _ _
  rw [← map_str_two, List.length_append]
  exact hown'

set_option maxHeartbeats 1000000 in
set_option maxRecDepth 100000 in
theorem condSeq_any (R : Nat → Prop) (base : Nat) (d : Nat) : ∀ (w : World) (v0 v1 v2 v3 v : Value) (seq xs : List ByteArray) (N : Nat) (fuel : Int), ZT w R d v0 v1 v2 v3 seq N → Own base w v xs → Clear R w v → base ≤ w.heap.size →
    xs.length + seq.length ≤ 50000 → d ≤ fuel → fuel ≤ 4097 → Calls Try.prog 37 #[.agg #[v0, v1, v2, v3], v, .int .i64 fuel] w fun e w' => ∃ v', e = .returned v' ∧ NStep base w v w' v' (xs ++ seq) := by
  obtain ⟨i0, hi, hz0, hz1, hz2⟩ := info_parts info9
  induction d with
  | zero => intro _ _ _ _ _ _ _ _ _ _ h; exact h.elim
  | succ d ih =>
    rintro w v0 v1 v2 v3 v seq xs N fuel ⟨m, a, x, ao, len, cap, S, M, rfl, rfl, rfl, rfl, es, eN, hc⟩ hown hR hbase hn f0 f1
    have f2 : ¬ fuel ≤ 0 := by omega
    have f3 : decide (fuel ≤ 0) = false := decide_eq_false f2
    have IH : Hid (∀ (w : World) (v0 v1 v2 v3 v : Value) (seq xs : List ByteArray) (N : Nat) (fuel : Int), ZT w R d v0 v1 v2 v3 seq N → Own base w v xs → Clear R w v → base ≤ w.heap.size →
      xs.length + seq.length ≤ 50000 → d ≤ fuel → fuel ≤ 4097 → Calls Try.prog 37 #[.agg #[v0, v1, v2, v3], v, .int .i64 fuel] w fun e w' => ∃ v', e = .returned v' ∧ NStep base w v w' v' (xs ++ seq)) := ih
    have HES : Hid (seq = m :: a :: cat S len) := es
    have hn2 : xs.length + (2 + (cat S len).length) ≤ 50000 := by rw [es] at hn; simp at hn; omega
    have HOwn : Hid (Own base w v xs) := hown
    have HClr : Hid (Clear R w v) := hR
    clear ih es hown hR hn eN
    rcases hc with rfl | ⟨b, off, rfl, hb, hch⟩
    · go_enter Try.func37, Try.ntmps37
      go_wp2_with (at_builtin; refine wpList_append_own_at _ rfl _ _ 38 rfl base 9 i0 (.string ByteArray.empty) 1 16 Try.underlying38 hi hz0 hz1 hz2 rfl (by decide) _ _ _ rfl (World.ownsRow.alloc (World.ownsRow.alloc HOwn.out _) _) ⟨w.heap.size + 1, 0, none⟩ 2 2 [.string m, .string a] rfl rfl (two_cells w _ m a) (two_one m a) (by unfold maxLen; omega) (by omega) (by simp; omega) ?_; intro u w1 hown' hgrow hnil hloc; have hst := two_step hown' hgrow (by simpa using hloc); have hbox : w1.cell? ⟨w.heap.size, 3, none⟩ = some (.slice ao 0 cap) := hst.cell (by simp [go_sem]) (own_ne HOwn.out (Nat.le_refl _)); have hst' := hst.ahead.ahead; clear hown' hgrow hnil hloc hst)
      refine wp_loop_rounds 1 ?_
      rw [rounds_succ]
      go_wp2_with fail
      go_ret
      exact ⟨u, rfl, by rw [HES.out]; exact hst'⟩
    · have HCH : Hid (∀ i, i < len → ∃ u0 u1 u2 u3,
        (w.cell? ⟨b, off + i * 4, none⟩ = some u0 ∧ w.cell? ⟨b, off + i * 4 + 1, none⟩ = some u1 ∧ w.cell? ⟨b, off + i * 4 + 2, none⟩ = some u2 ∧ w.cell? ⟨b, off + i * 4 + 3, none⟩ = some u3) ∧
        ZT w R d u0 u1 u2 u3 (S i) (M i)) := hch
      have HB : Hid (R b) := hb
      have hlen : len ≤ 50000 := by
        have := cat_ge S len fun i hi => by
          obtain ⟨_, _, _, _, _, ht⟩ := hch i hi
          exact ht.two
        omega
      clear hch hb
      go_enter Try.func37, Try.ntmps37
      go_wp2_with (at_builtin; refine wpList_append_own_at _ rfl _ _ 38 rfl base 9 i0 (.string ByteArray.empty) 1 16 Try.underlying38 hi hz0 hz1 hz2 rfl (by decide) _ _ _ rfl (World.ownsRow.alloc (World.ownsRow.alloc HOwn.out _) _) ⟨w.heap.size + 1, 0, none⟩ 2 2 [.string m, .string a] rfl rfl (two_cells w _ m a) (two_one m a) (by unfold maxLen; omega) (by omega) (by simp; omega) ?_; intro u w1 hown' hgrow hnil hloc; have hst := two_step hown' hgrow (by simpa using hloc); have hbox : w1.cell? ⟨w.heap.size, 3, none⟩ = some (.slice (some ⟨b, off, none⟩) len cap) := hst.cell (by simp [go_sem]) (own_ne HOwn.out (Nat.le_refl _)); have hst' := hst.ahead; clear hown' hgrow hnil hloc hst)
      go_loopw [1, 7] (fun t i wr => ∃ k : Nat, k ≤ len ∧ i = .int .i64 k ∧ NStep base (w.alloc (.cells #[.string m, .string a, .bool x, .slice (some ⟨b, off, none⟩) len cap] 44)) v wr t (xs ++ (m :: a :: cat S k))) (fun _ i _ => len - (intOf i).toNat)
      case atStart => exact ⟨0, Nat.zero_le _, rfl, hst'⟩
      case round =>
        obtain ⟨k, hk, rfl, hst2⟩ := hrel
        clear hbox hst'
        have hbox : wr.cell? ⟨w.heap.size, 3, none⟩ = some (.slice (some ⟨b, off, none⟩) len cap) := hst2.cell (by simp [go_sem]) (own_ne HOwn.out (Nat.le_refl _))
        by_cases hlt : k < len
        · obtain ⟨z0, z1, z2, z3, ⟨c0, c1, c2, c3⟩, ht⟩ := HCH.out k hlt
          have hne := (HClr.out b HB.out).2
          have hbw := (HClr.out b HB.out).1
          have get : ∀ o y, w.cell? ⟨b, o, none⟩ = some y → wr.cell? ⟨b, o, none⟩ = some y := fun o y h => hst2.cell ((World.cell?_alloc_lt (a := ⟨b, o, none⟩) _ _ hbw).trans h) hne
          have e0 := get _ _ c0
          have e1 := get _ _ c1
          have e2 := get _ _ c2
          have e3 := get _ _ c3
          have HCl0 : Hid (Clear R (w.alloc (.cells #[.string m, .string a, .bool x, .slice (some ⟨b, off, none⟩) len cap] 44)) v) := HClr.out.alloc _
          have hct : Hid (ZT wr R d z0 z1 z2 z3 (S k) (M k)) := (ht.kept (Kept.below ((Below.refl _ _).alloc (Nat.le_refl _) (.cells #[.string m, .string a, .bool x, .slice (some ⟨b, off, none⟩) len cap] 44)) (fun b hb => (HClr.out b hb).1))).kept (hst2.kept HCl0.out)
          have HCl : Hid (Clear R wr u1) := hst2.clear HCl0.out
          have hsz := hst2.grown.size
          have hsz' : base ≤ wr.heap.size := by simp at hsz; omega
          have HLen : Hid ((xs ++ (m :: a :: cat S k)).length + (S k).length ≤ 50000) := by
            show _ ≤ _
            have h2 := cat_part S len k hlt
            simp only [List.length_cons, List.length_append]
            omega
          have HSt : Hid (NStep base (w.alloc (.cells #[.string m, .string a, .bool x, .slice (some ⟨b, off, none⟩) len cap] 44)) v wr u1 (xs ++ (m :: a :: cat S k))) := hst2
          clear c0 c1 c2 c3 ht hne hst2 get hsz
          go_wp2_with fail
          refine (IH.out wr z0 z1 z2 z3 u1 (S k) _ (M k) (fuel - 1) hct.out HSt.out.own HCl.out hsz' HLen.out (by omega) (by omega)).mono ?_
          rintro e w2 ⟨v', rfl, hst3⟩
          have hst4 := HSt.out.trans hst3
          clear hst3
          go_wp2_with fail
          go_roundw
          case rel => exact ⟨k + 1, by omega, by go_num, by rw [seq_cat]; exact hst4⟩
          case measure => simp [intOf]; omega
        · obtain rfl : len = k := by omega
          go_wp2_with fail
          go_ret
          exact ⟨_, rfl, by rw [HES.out]; exact hst2.ahead⟩
end Go.Proofs.Qxb6605753a
