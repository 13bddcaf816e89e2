/-
  buildRequire, (interpolatedAverage).reads, ZZinterpolatedAverageReads.
-/
import Derived.Test.Qxb6605753aReadSeq
namespace Go.Proofs.Qxb6605753a
open Go.RowKit Go.Deep

/-- *condition: nil, or a pointer to a tree of the book's own. -/
def CPtr (w : World) (R : Nat → Prop) (v : Value) (seq : List ByteArray) : Prop :=
  (v = .pointer none ∧ seq = []) ∨ ∃ b d u0 u1 u2 u3 u4, v = .pointer (some ⟨b, 0, none⟩) ∧ R b ∧ w.cell? ⟨b, 0, none⟩ = some u0 ∧ w.cell? ⟨b, 1, none⟩ = some u1 ∧ w.cell? ⟨b, 2, none⟩ = some u2 ∧ w.cell? ⟨b, 3, none⟩ = some u3 ∧ w.cell? ⟨b, 4, none⟩ = some u4 ∧ CT w R d u0 u1 u2 u3 u4 seq

theorem CPtr.kept {w w' : World} {R : Nat → Prop} {v : Value} {seq : List ByteArray} (h : CPtr w R v seq) (k : Kept R w w') : CPtr w' R v seq := by
  rcases h with h | ⟨b, d, u0, u1, u2, u3, u4, hv, hb, c0, c1, c2, c3, c4, ht⟩
  · exact .inl h
  · exact .inr ⟨b, d, u0, u1, u2, u3, u4, hv, hb, k _ _ _ hb c0, k _ _ _ hb c1, k _ _ _ hb c2, k _ _ _ hb c3, k _ _ _ hb c4, ht.kept k⟩

theorem CT.bounded {w : World} {R : Nat → Prop} : ∀ {d : Nat} {v0 v1 v2 v3 v4 : Value} {seq : List ByteArray}, CT w R d v0 v1 v2 v3 v4 seq → CT w (fun b => R b ∧ b < w.heap.size) d v0 v1 v2 v3 v4 seq := by
  intro d
  induction d with
  | zero => intro _ _ _ _ _ _ h; exact h.elim
  | succ d ih =>
    rintro v0 v1 v2 v3 v4 seq ⟨m, a, x, ao, len, cap, S, e0, e1, e2, e3, e4, es, hc⟩
    refine ⟨m, a, x, ao, len, cap, S, e0, e1, e2, e3, e4, es, ?_⟩
    rcases hc with hc | ⟨b, off, hao, hb, hc⟩
    · exact .inl hc
    · by_cases h0 : len = 0
      · exact .inl h0
      · obtain ⟨_, _, _, _, _, ⟨c0, _⟩, _⟩ := hc 0 (by omega)
        refine .inr ⟨b, off, hao, ⟨hb, cell_lt c0⟩, fun i hi => ?_⟩
        obtain ⟨u0, u1, u2, u3, u4, hcs, ht⟩ := hc i hi
        exact ⟨u0, u1, u2, u3, u4, hcs, ih ht⟩

theorem MRow.below {w w' : World} {v : Value} {xs : List ByteArray} (h : MRow w v xs) (k : Below w.heap.size w w') : MRow w' v xs := by
  obtain ⟨ao, cap, rfl, h⟩ := h
  rcases h with h | ⟨b, off, rfl, p, q, hc⟩
  · exact ⟨ao, cap, rfl, .inl h⟩
  · refine ⟨_, cap, rfl, .inr ⟨b, off, rfl, p, q, fun i hi => ?_⟩⟩
    obtain ⟨h0, h1, h2⟩ := hc i hi
    exact ⟨(k.cell (p := ⟨b, off + i * 3, none⟩) (cell_lt h0)).trans h0, (k.cell (p := ⟨b, off + i * 3 + 1, none⟩) (cell_lt h1)).trans h1, (k.cell (p := ⟨b, off + i * 3 + 2, none⟩) (cell_lt h2)).trans h2⟩

theorem StrRow.below {w w' : World} {v : Value} {xs : List ByteArray} (h : StrRow w v xs) (k : Below w.heap.size w w') : StrRow w' v xs :=
  h.mono fun b o _ hx _ => (k.cell (p := ⟨b, o, none⟩) (cell_lt hx)).trans hx

set_option maxHeartbeats 400000 in
theorem require_any (r : Value) (seq : List ByteArray) (N : Nat) (R : Nat → Prop) (w : World) (hz : ZPtr w R r seq N) (hR : ∀ b, R b → b < w.heap.size) (hN : N ≤ 4096) :
    Calls Try.prog 15 #[r] w fun e w' => ∃ u, e = .returned u ∧ CPtr w' (fun b => w.heap.size ≤ b ∧ b < w'.heap.size) u seq ∧ Below w.heap.size w w' := by
  rcases hz with ⟨rfl, rfl, rfl⟩ | ⟨p, o, d, z0, z1, z2, z3, rfl, hb, c0, c1, c2, c3, ht⟩
  · go_enter Try.func15, Try.ntmps15
    go_wp2_with fail
    go_ret
    exact ⟨_, rfl, .inl ⟨rfl, rfl⟩, Below.refl _ _⟩
  · have HT : Hid (ZT w R N z0 z1 z2 z3 seq N) := ht.levels
    have HR : Hid (∀ b, R b → b < w.heap.size) := hR
    clear ht hR hb
    go_enter Try.func15, Try.ntmps15
    go_wp2_with fail
    refine (toCond_any R N w z0 z1 z2 z3 seq N 4097 HT.out HR.out hN (by omega) (by omega)).mono ?_
    rintro e w1 ⟨m, a, x, ao, len, cap, rfl, hb1, hct⟩
    have HCT : Hid (CT w1 (fun b => w.heap.size ≤ b) N (.string m) (.pointer none) (.string a) (.bool x) (.slice ao len cap) seq) := hct
    clear hct
    go_wp2_with fail
    go_ret
    refine ⟨.pointer (some ⟨w1.heap.size, 0, none⟩), rfl, .inr ⟨w1.heap.size, N, .string m, .pointer none, .string a, .bool x, .slice ao len cap, rfl, ⟨hb1.size, by simp⟩, by simp [go_sem], by simp [go_sem], by simp [go_sem], by simp [go_sem], by simp [go_sem], ?_⟩, hb1.alloc hb1.size _⟩
    exact (HCT.out.kept fun b o y _ hy => (World.cell?_alloc_lt (a := ⟨b, o, none⟩) _ _ (cell_lt hy)).trans hy).bounded

set_option maxHeartbeats 400000 in
theorem gate_any (v r : Value) (ms seq : List ByteArray) (R : Nat → Prop) (w : World) (h : MRow w v ms) (hz : CPtr w R r seq) (hR : ∀ b, R b → b < w.heap.size) (hn : ms.length + seq.length ≤ 40000) :
    Calls Try.prog 14 #[v, r] w fun e w' => ∃ u, e = .returned u ∧ StrRow w' u (Pl.addN [] (ms ++ seq)) ∧ Below w.heap.size w w' := by
  have hv : ∃ ao n cap, v = .slice ao n cap := by
    obtain ⟨ao, cap, rfl, _⟩ := h
    exact ⟨_, _, _, rfl⟩
  obtain ⟨ao, n, cap, rfl⟩ := hv
  rcases hz with ⟨rfl, rfl⟩ | ⟨p, d, z0, z1, z2, z3, z4, rfl, hb, c0, c1, c2, c3, c4, ht⟩
  · have HM : Hid (MRow w (.slice ao n cap) ms) := h
    clear h hR
    go_enter Try.func14, Try.ntmps14
    go_wp2_with (go_at_call 35; go_in)
    refine (metricsOf_any _ ms _ (HM.out.below ((Below.refl _ _).alloc (Nat.le_refl _) _)) (by omega)).mono ?_
    rintro e w1 ⟨u, rfl, hrow, hb1, hu⟩
    have hbox : w1.cell? ⟨w.heap.size, 1, none⟩ = some (.pointer none) := (hb1.cell (p := ⟨w.heap.size, 1, none⟩) (by simp)).trans (by simp [go_sem])
    have hs1 := hb1.size
    go_wp2_with fail
    refine (addNames_any w.heap.size (.slice none 0 0) u [] ms w1 (World.ownsRow_nil _ _ _ _) hrow (fun b _ => by simp [Value.ownBlock]) (by simp at hs1; omega) (by simp at hn ⊢; omega)).mono ?_
    rintro e w2 ⟨u2, rfl, hst⟩
    have hbox2 := hst.cell hbox (by simp [Value.ownBlock])
    have hbel : Below w.heap.size w w2 := (((Below.refl _ _).alloc (Nat.le_refl _) _).trans (hb1.mono (by simp))).trans (hst.below w.heap.size (by simp at hs1; omega) (fun g hg => by simp [Value.ownBlock] at hg))
    clear hbox hb1 hrow hu
    go_wp2_with fail
    go_ret
    exact ⟨_, rfl, by rw [List.append_nil]; exact hst.own.row, hbel⟩
  · have HM : Hid (MRow w (.slice ao n cap) ms) := h
    have HR : Hid (∀ b, R b → b < w.heap.size) := hR
    have HP : Hid (R p) := hb
    have CC : Hid (w.cell? ⟨p, 0, none⟩ = some z0 ∧ w.cell? ⟨p, 1, none⟩ = some z1 ∧ w.cell? ⟨p, 2, none⟩ = some z2 ∧ w.cell? ⟨p, 3, none⟩ = some z3 ∧ w.cell? ⟨p, 4, none⟩ = some z4) := ⟨c0, c1, c2, c3, c4⟩
    have HT : Hid (CT w R d z0 z1 z2 z3 z4 seq) := ht
    clear h hR hb c0 c1 c2 c3 c4 ht
    go_enter Try.func14, Try.ntmps14
    go_wp2_with (go_at_call 35; go_in)
    refine (metricsOf_any _ ms _ (HM.out.below ((Below.refl _ _).alloc (Nat.le_refl _) _)) (by omega)).mono ?_
    rintro e w1 ⟨u, rfl, hrow, hb1, hu⟩
    have hbox : w1.cell? ⟨w.heap.size, 1, none⟩ = some (.pointer (some ⟨p, 0, none⟩)) := (hb1.cell (p := ⟨w.heap.size, 1, none⟩) (by simp)).trans (by simp [go_sem])
    have hs1 := hb1.size
    go_wp2_with fail
    refine (addNames_any w.heap.size (.slice none 0 0) u [] ms w1 (World.ownsRow_nil _ _ _ _) hrow (fun b _ => by simp [Value.ownBlock]) (by simp at hs1; omega) (by simp; omega)).mono ?_
    rintro e w2 ⟨u2, rfl, hst⟩
    have hbox2 := hst.cell hbox (by simp [Value.ownBlock])
    have hbel : Below w.heap.size w w2 := (((Below.refl _ _).alloc (Nat.le_refl _) _).trans (hb1.mono (by simp))).trans (hst.below w.heap.size (by simp at hs1; omega) (fun g hg => by simp [Value.ownBlock] at hg))
    have hpw := HR.out p HP.out
    have e0 := (hbel.cell (p := ⟨p, 0, none⟩) hpw).trans CC.out.1
    have e1 := (hbel.cell (p := ⟨p, 1, none⟩) hpw).trans CC.out.2.1
    have e2 := (hbel.cell (p := ⟨p, 2, none⟩) hpw).trans CC.out.2.2.1
    have e3 := (hbel.cell (p := ⟨p, 3, none⟩) hpw).trans CC.out.2.2.2.1
    have e4 := (hbel.cell (p := ⟨p, 4, none⟩) hpw).trans CC.out.2.2.2.2
    clear hbox hb1 hrow hu
    have HSt : Hid (NStep w.heap.size w1 (.slice none 0 0) w2 u2 (Pl.addN [] ms)) := hst
    clear hst
    go_wp2_with fail
    refine (reads_any R w.heap.size d w2 z0 z1 z2 z3 z4 u2 seq (Pl.addN [] ms) (HT.out.kept (Kept.below hbel HR.out)) HSt.out.own (fun b hb => ⟨Nat.lt_of_lt_of_le (HR.out b hb) hbel.size, fun e => ?_⟩) hbel.size (by have := Pl.addN_len [] ms; simp at this; omega)).mono ?_
    · have h1 := (World.ownsRow.lt HSt.out.own b e.symm).1
      have h2 := HR.out b hb
      omega
    rintro e w3 ⟨u3, rfl, hst3⟩
    have hbel3 : Below w.heap.size w w3 := hbel.trans (hst3.below w.heap.size hbel.size (fun g hg => (World.ownsRow.lt HSt.out.own g hg).1))
    go_wp2_with fail
    go_ret
    exact ⟨_, rfl, by rw [Pl.addN_append]; exact hst3.own.row, hbel3⟩
end Go.Proofs.Qxb6605753a
