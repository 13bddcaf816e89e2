/-
  (condition).reads, condSeq: they call themselves, and append to a slice of names.
-/
import Derived.Test.Qxb6605753aToCond
namespace Go.Proofs.Qxb6605753a
open Go.RowKit Go.Deep

theorem CT.form {w : World} {R : Nat → Prop} {d : Nat} {v0 v1 v2 v3 v4 : Value} {seq : List ByteArray} (h : CT w R d v0 v1 v2 v3 v4 seq) :
    ∃ (m a : ByteArray) (x : Bool) (ao : Option Addr) (len cap : Nat), v0 = .string m ∧ v1 = .pointer none ∧ v2 = .string a ∧ v3 = .bool x ∧ v4 = .slice ao len cap := by
  cases d with
  | zero => exact h.elim
  | succ d =>
    obtain ⟨m, a, x, ao, len, cap, S, e0, e1, e2, e3, e4, _⟩ := h
    exact ⟨m, a, x, ao, len, cap, e0, e1, e2, e3, e4⟩

/-- The names' slice stays clear of R. -/
def Clear (R : Nat → Prop) (w : World) (v : Value) : Prop := ∀ b, R b → b < w.heap.size ∧ some b ≠ v.ownBlock

theorem NStep.clear {base : Nat} {w w1 : World} {v v1 : Value} {xs : List ByteArray} (h : NStep base w v w1 v1 xs) {R : Nat → Prop} (hR : Clear R w v) : Clear R w1 v1 := fun b hb => by
  obtain ⟨h1, h2⟩ := hR b hb
  refine ⟨Nat.lt_of_lt_of_le h1 h.grown.size, fun e => ?_⟩
  rcases h.loc with l | ⟨g, l, hg⟩
  · exact h2 (e.trans l)
  · rw [l] at e; cases e; omega

theorem NStep.kept {base : Nat} {w w1 : World} {v v1 : Value} {xs : List ByteArray} (h : NStep base w v w1 v1 xs) {R : Nat → Prop} (hR : Clear R w v) : Kept R w w1 := fun b _ _ hb hx => h.cell hx (hR b hb).2

theorem cat_le (S : Nat → List ByteArray) (len k : Nat) (h : k ≤ len) : (cat S k).length ≤ (cat S len).length := by
  induction len with
  | zero => have : k = 0 := by omega
            subst this; exact Nat.le_refl _
  | succ n ih =>
    by_cases e : k = n + 1
    · subst e; exact Nat.le_refl _
    · have := ih (by omega)
      simp only [cat, List.length_append]; omega

theorem cat_part (S : Nat → List ByteArray) (len k : Nat) (h : k < len) : (cat S k).length + (S k).length ≤ (cat S len).length := by
  have := cat_le S len (k + 1) h
  simpa [cat] using this

theorem CT.two {w : World} {R : Nat → Prop} {d : Nat} {v0 v1 v2 v3 v4 : Value} {seq : List ByteArray} (h : CT w R d v0 v1 v2 v3 v4 seq) : 1 ≤ seq.length := by
  cases d with
  | zero => exact h.elim
  | succ d =>
    obtain ⟨m, a, x, ao, len, cap, S, _, _, _, _, _, es, _⟩ := h
    subst es; simp
theorem ZT.two {w : World} {R : Nat → Prop} {d : Nat} {v0 v1 v2 v3 : Value} {seq : List ByteArray} {N : Nat} (h : ZT w R d v0 v1 v2 v3 seq N) : 1 ≤ seq.length := by
  cases d with
  | zero => exact h.elim
  | succ d =>
    obtain ⟨m, a, x, ao, len, cap, S, M, _, _, _, _, es, _⟩ := h
    subst es; simp
theorem cat_ge (S : Nat → List ByteArray) (n : Nat) (h : ∀ i, i < n → 1 ≤ (S i).length) : n ≤ (cat S n).length := by
  induction n with
  | zero => exact Nat.le_refl _
  | succ n ih =>
    have h1 := ih fun i hi => h i (by omega)
    have h2 := h n (by omega)
    simp only [cat, List.length_append]; omega
theorem addN_cat (xs : List ByteArray) (m a : ByteArray) (S : Nat → List ByteArray) (k : Nat) : Pl.addN xs (m :: a :: cat S (k + 1)) = Pl.addN (Pl.addN xs (m :: a :: cat S k)) (S k) := by
  rw [← Pl.addN_append]; rfl

theorem two_names (w : World) (o : Obj) (m a : ByteArray) : StrRow ((w.alloc o).alloc (.cells #[.string m, .string a] 9)) (.slice (some ⟨w.heap.size + 1, 0, none⟩) 2 2) [m, a] := by
  refine ⟨_, 2, rfl, .inr ⟨w.heap.size + 1, 0, rfl, fun i hi => ?_⟩⟩
  match i, hi with
  | 0, _ => simp [go_sem]
  | 1, _ => simp [go_sem]

theorem own_ne {base : Nat} {w : World} {v : Value} {xs : List ByteArray} (h : Own base w v xs) {b : Nat} (hb : w.heap.size ≤ b) : some b ≠ v.ownBlock := fun e => by
  have := (World.ownsRow.lt h b e.symm).2
  omega

theorem Clear.alloc {R : Nat → Prop} {w : World} {v : Value} (h : Clear R w v) (o : Obj) : Clear R (w.alloc o) v := fun b hb => ⟨by have := (h b hb).1; simp; omega, (h b hb).2⟩

set_option maxHeartbeats 1000000 in
set_option maxRecDepth 100000 in
theorem reads_any (R : Nat → Prop) (base : Nat) (d : Nat) : ∀ (w : World) (v0 v1 v2 v3 v4 v : Value) (seq xs : List ByteArray), CT w R d v0 v1 v2 v3 v4 seq → Own base w v xs → Clear R w v → base ≤ w.heap.size →
    xs.length + seq.length ≤ 50000 → Calls Try.prog 43 #[.agg #[v0, v1, v2, v3, v4], v] w fun e w' => ∃ v', e = .returned v' ∧ NStep base w v w' v' (Pl.addN xs seq) := by
  induction d with
  | zero => intro _ _ _ _ _ _ _ _ _ h; exact h.elim
  | succ d ih =>
    rintro w v0 v1 v2 v3 v4 v seq xs ⟨m, a, x, ao, len, cap, S, rfl, rfl, rfl, rfl, rfl, es, hc⟩ hown hR hbase hn
    have IH : Hid (∀ (w : World) (v0 v1 v2 v3 v4 v : Value) (seq xs : List ByteArray), CT w R d v0 v1 v2 v3 v4 seq → Own base w v xs → Clear R w v → base ≤ w.heap.size →
      xs.length + seq.length ≤ 50000 → Calls Try.prog 43 #[.agg #[v0, v1, v2, v3, v4], v] w fun e w' => ∃ v', e = .returned v' ∧ NStep base w v w' v' (Pl.addN xs seq)) := ih
    have HES : Hid (seq = m :: a :: cat S len) := es
    have hn2 : xs.length + (2 + (cat S len).length) ≤ 50000 := by rw [es] at hn; simp at hn; omega
    have HOwn : Hid (Own base w v xs) := hown
    have HClr : Hid (Clear R w v) := hR
    clear ih es hown hR hn
    rcases hc with rfl | ⟨b, off, rfl, hb, hch⟩
    · go_enter Try.func43, Try.ntmps43
      go_wp2_with fail
      refine (addNames_any base v (.slice (some ⟨w.heap.size + 1, 0, none⟩) 2 2) xs [m, a] _ (World.ownsRow.alloc (World.ownsRow.alloc HOwn.out _) _) (two_names w _ m a) (fun b hb => by cases hb; exact own_ne HOwn.out (by show w.heap.size ≤ w.heap.size + 1; omega)) (by simp; omega) (by simp; omega)).mono ?_
      rintro e w1 ⟨u, rfl, hst⟩
      have hbox : w1.cell? ⟨w.heap.size, 4, none⟩ = some (.slice ao 0 cap) := hst.cell (by simp [go_sem]) (own_ne HOwn.out (Nat.le_refl _))
      have hst' := hst.ahead.ahead
      clear hst
      go_wp2_with fail
      refine wp_loop_rounds 1 ?_
      rw [rounds_succ]
      go_wp2_with fail
      go_ret
      exact ⟨u, rfl, by rw [HES.out]; exact hst'⟩
    · have HCH : Hid (∀ i, i < len → ∃ u0 u1 u2 u3 u4,
        (w.cell? ⟨b, off + i * 5, none⟩ = some u0 ∧ w.cell? ⟨b, off + i * 5 + 1, none⟩ = some u1 ∧ w.cell? ⟨b, off + i * 5 + 2, none⟩ = some u2 ∧ w.cell? ⟨b, off + i * 5 + 3, none⟩ = some u3 ∧ w.cell? ⟨b, off + i * 5 + 4, none⟩ = some u4) ∧
        CT w R d u0 u1 u2 u3 u4 (S i)) := hch
      have HB : Hid (R b) := hb
      have hlen : len ≤ 50000 := by
        have := cat_ge S len fun i hi => by
          obtain ⟨_, _, _, _, _, _, ht⟩ := hch i hi
          exact ht.two
        omega
      clear hch hb
      go_enter Try.func43, Try.ntmps43
      go_wp2_with fail
      refine (addNames_any base v (.slice (some ⟨w.heap.size + 1, 0, none⟩) 2 2) xs [m, a] _ (World.ownsRow.alloc (World.ownsRow.alloc HOwn.out _) _) (two_names w _ m a) (fun b hb => by cases hb; exact own_ne HOwn.out (by show w.heap.size ≤ w.heap.size + 1; omega)) (by simp; omega) (by simp; omega)).mono ?_
      rintro e w1 ⟨u, rfl, hst⟩
      have hbox : w1.cell? ⟨w.heap.size, 4, none⟩ = some (.slice (some ⟨b, off, none⟩) len cap) := hst.cell (by simp [go_sem]) (own_ne HOwn.out (Nat.le_refl _))
      have hst' := hst.ahead.ahead
      clear hst
      go_wp2_with fail
      go_loopw [1, 17] (fun t i wr => ∃ k : Nat, k ≤ len ∧ i = .int .i64 k ∧ NStep base w v wr t (Pl.addN xs (m :: a :: cat S k))) (fun _ i _ => len - (intOf i).toNat)
      case atStart => exact ⟨0, Nat.zero_le _, rfl, hst'⟩
      case round =>
        obtain ⟨k, hk, rfl, hst2⟩ := hrel
        clear hbox hst'
        by_cases hlt : k < len
        · obtain ⟨u0, u1, u2, u3, u4, ⟨c0, c1, c2, c3, c4⟩, ht⟩ := HCH.out k hlt
          obtain ⟨m', a', x', ao', len', cap', rfl, rfl, rfl, rfl, rfl⟩ := ht.form
          have hne := (HClr.out b HB.out).2
          have e0 := hst2.cell c0 hne
          have e1 := hst2.cell c1 hne
          have e2 := hst2.cell c2 hne
          have e3 := hst2.cell c3 hne
          have e4 := hst2.cell c4 hne
          have hct : Hid (CT wr R d (.string m') (.pointer none) (.string a') (.bool x') (.slice ao' len' cap') (S k)) := ht.kept (hst2.kept HClr.out)
          have hcl := hst2.clear HClr.out
          have HCl : Hid (Clear R wr u1) := hcl
          have hsz := hst2.grown.size
          have HLen : Hid ((Pl.addN xs (m :: a :: cat S k)).length + (S k).length ≤ 50000) := by
            show _ ≤ _
            have h1 := Pl.addN_len xs (m :: a :: cat S k)
            have h2 := cat_part S len k hlt
            simp only [List.length_cons] at h1
            omega
          have HSt : Hid (NStep base w v wr u1 (Pl.addN xs (m :: a :: cat S k))) := hst2
          clear c0 c1 c2 c3 c4 ht hne hcl hst2
          go_wp2_with fail
          refine (IH.out _ _ _ _ _ _ _ (S k) _ (hct.out.kept (Kept.below ((Below.refl _ _).alloc (Nat.le_refl _) _) (fun b hb => (HCl.out b hb).1))) (World.ownsRow.alloc HSt.out.own _) (HCl.out.alloc _) (by simp; omega) HLen.out).mono ?_
          rintro e w2 ⟨v', rfl, hst3⟩
          have hst4 := (HSt.out.alloc _).trans hst3
          clear hst3
          go_wp2_with fail
          go_roundw
          case rel => exact ⟨k + 1, by omega, by go_num, by rw [addN_cat]; exact hst4⟩
          case measure => simp [intOf]; omega
        · obtain rfl : len = k := by omega
          go_wp2_with fail
          go_ret
          exact ⟨_, rfl, by rw [HES.out]; exact hst2⟩
end Go.Proofs.Qxb6605753a
