/-
  toCond: it calls itself, and makes memory.
-/
import Derived.Test.Qxb6605753aTree
import Derived.Test.Qxb6605753aBuild
namespace Go.Proofs.Qxb6605753a
open Go.RowKit Go.Deep

theorem m44 (m a : ByteArray) (x : Bool) (ao : Option Addr) (len cap : Nat) (w : World) :
    Calls Try.prog 44 #[.string m, .string a, .bool x, .slice ao len cap] w fun e w' => e = .returned (.agg #[.string m, .pointer none, .string a, .bool x, .slice ao len cap]) ∧ w' = w.alloc (.cells #[.string m, .pointer none, .string a, .bool x, .slice ao len cap] 74) := by
  go_enter Try.func44, Try.ntmps44
  go_wp2
  exact bodyPost_ret (v := .agg #[.string m, .pointer none, .string a, .bool x, .slice ao len cap]) (by simp [results, Try.results44, go_sem]) rfl ⟨rfl, rfl⟩

theorem m44' (m a : ByteArray) (x : Bool) (ao : Option Addr) (len cap : Nat) (w : World) :
    Calls Try.prog 44 #[.string m, .string a, .bool x, .slice ao len cap] w fun e w' => e = .returned (.agg #[.string m, .pointer none, .string a, .bool x, .slice ao len cap]) ∧ Below w.heap.size w w' := by
  refine (m44 m a x ao len cap w).mono ?_
  rintro e w' ⟨rfl, rfl⟩
  exact ⟨rfl, (Below.refl _ _).alloc (Nat.le_refl _) _⟩

theorem info74 : (Try.prog.info? 74).map (fun i => (i.zero, i.size, i.bytes)) = some (some (.agg #[.string ByteArray.empty, .pointer none, .string ByteArray.empty, .bool false, .slice none 0 0]), 5, 72) := by kernel_rfl

theorem mk72_0 (w : World) : (Instr.makeSlice 72 (.int .i64 0) (.int .i64 0)).run Try.prog w = .ok (.slice (some ⟨w.heap.size, 0, none⟩) 0 0) (w.alloc (.cells #[] 74)) := by kernel_rfl

/-- What toCond answers. -/
def Made (w : World) (d : Nat) (seq : List ByteArray) (e : Ending) (w' : World) : Prop :=
  ∃ (m a : ByteArray) (x : Bool) (ao : Option Addr) (len cap : Nat), e = .returned (.agg #[.string m, .pointer none, .string a, .bool x, .slice ao len cap]) ∧ Below w.heap.size w w' ∧
    CT w' (fun b => w.heap.size ≤ b) d (.string m) (.pointer none) (.string a) (.bool x) (.slice ao len cap) seq

/-- The list, its first k filled. -/
structure Lst (B : Nat) (d : Nat) (S : Nat → List ByteArray) (len k : Nat) (w : World) : Prop where
  size : B + 1 ≤ w.heap.size
  row : ∃ f : Nat → Value, w.rowIs B 74 (len * 5) f ∧ ∀ j, j < k → CT w (fun b => B + 1 ≤ b) d (f (j * 5)) (f (j * 5 + 1)) (f (j * 5 + 2)) (f (j * 5 + 3)) (f (j * 5 + 4)) (S j)

theorem Lst.start {B len : Nat} (d : Nat) (S : Nat → List ByteArray) (w : World) (z : Array Value) (hB : w.heap.size = B) : Lst B d S len 0 (w.alloc (.cells (madeCells z (len * 5)) 74)) := by
  subst hB
  obtain ⟨f, hf⟩ := rowIs_any w z (len * 5) 74
  exact ⟨by simp, f, hf, fun j hj => by omega⟩

/-- Five cells stored. -/
def set5 (w : World) (B o : Nat) (v0 v1 v2 v3 v4 : Value) : World := ((((w.setCell ⟨B, o, none⟩ v0).setCell ⟨B, o + 1, none⟩ v1).setCell ⟨B, o + 2, none⟩ v2).setCell ⟨B, o + 3, none⟩ v3).setCell ⟨B, o + 4, none⟩ v4

theorem set5_kept {R : Nat → Prop} {B : Nat} (w : World) (o : Nat) (v0 v1 v2 v3 v4 : Value) (hR : ¬ R B) : Kept R w (set5 w B o v0 v1 v2 v3 v4) := fun b q x hb hx => by
  have hne : B ≠ b := fun e => hR (e ▸ hb)
  unfold set5
  rw [World.cell?_setCell_far _ _ _ _ hne, World.cell?_setCell_far _ _ _ _ hne, World.cell?_setCell_far _ _ _ _ hne, World.cell?_setCell_far _ _ _ _ hne, World.cell?_setCell_far _ _ _ _ hne]
  exact hx

/-- One condition more in the list. -/
theorem Lst.step {B d : Nat} {S : Nat → List ByteArray} {len k : Nat} {wr w2 : World} {v0 v1 v2 v3 v4 : Value} (h : Lst B d S len k wr) (hb : Below wr.heap.size wr w2)
    (ht : CT w2 (fun b => wr.heap.size ≤ b) d v0 v1 v2 v3 v4 (S k)) : Lst B d S len (k + 1) (set5 w2 B (k * 5) v0 v1 v2 v3 v4) := by
  obtain ⟨hs, f, hrow, hf⟩ := h
  have hrow2 : w2.rowIs B 74 (len * 5) f := hrow.of_block (hb.block _ hrow.lt)
  have hsz := hb.size
  have kk : Kept (fun b => B + 1 ≤ b) wr (set5 w2 B (k * 5) v0 v1 v2 v3 v4) := fun b o x hb' hx =>
    set5_kept (R := fun b => B + 1 ≤ b) w2 (k * 5) v0 v1 v2 v3 v4 (by show ¬ B + 1 ≤ B; omega) b o x hb' ((hb.cell (p := ⟨b, o, none⟩) (cell_lt hx)).trans hx)
  refine ⟨?_, _, ((((hrow2.set (k * 5) v0).set (k * 5 + 1) v1).set (k * 5 + 2) v2).set (k * 5 + 3) v3).set (k * 5 + 4) v4, fun j hj => ?_⟩
  · show B + 1 ≤ (set5 w2 B (k * 5) v0 v1 v2 v3 v4).heap.size
    simp only [set5, nblk_setCell]
    omega
  by_cases e : j = k
  · subst e
    have n01 : ¬ j * 5 = j * 5 + 1 := by omega
    have n02 : ¬ j * 5 = j * 5 + 2 := by omega
    have n03 : ¬ j * 5 = j * 5 + 3 := by omega
    have n04 : ¬ j * 5 = j * 5 + 4 := by omega
    have n12 : ¬ j * 5 + 1 = j * 5 + 2 := by omega
    have n13 : ¬ j * 5 + 1 = j * 5 + 3 := by omega
    have n14 : ¬ j * 5 + 1 = j * 5 + 4 := by omega
    have n23 : ¬ j * 5 + 2 = j * 5 + 3 := by omega
    have n24 : ¬ j * 5 + 2 = j * 5 + 4 := by omega
    have n34 : ¬ j * 5 + 3 = j * 5 + 4 := by omega
    simp only [if_neg n01, if_neg n02, if_neg n03, if_neg n04, if_neg n12, if_neg n13, if_neg n14, if_neg n23, if_neg n24, if_neg n34, if_true]
    exact (ht.kept (set5_kept (R := fun b => wr.heap.size ≤ b) w2 (j * 5) v0 v1 v2 v3 v4 (by show ¬ wr.heap.size ≤ B; omega))).wide (fun b hb' => by have : wr.heap.size ≤ b := hb'; show B + 1 ≤ b; omega)
  · have m : ∀ p q, p < 5 → q < 5 → ¬ j * 5 + p = k * 5 + q := fun p q hp hq => by omega
    have e0 := m 0; have e1 := m 1; have e2 := m 2; have e3 := m 3; have e4 := m 4
    simp only [Nat.add_zero] at e0
    have z : ∀ p, p < 5 → ¬ j * 5 + p = k * 5 := fun p hp => by omega
    have z0 : ¬ j * 5 = k * 5 := by omega
    simp only [if_neg (e0 1 (by omega) (by omega)), if_neg (e0 2 (by omega) (by omega)), if_neg (e0 3 (by omega) (by omega)), if_neg (e0 4 (by omega) (by omega)), if_neg z0,
      if_neg (z 1 (by omega)), if_neg (e1 1 (by omega) (by omega)), if_neg (e1 2 (by omega) (by omega)), if_neg (e1 3 (by omega) (by omega)), if_neg (e1 4 (by omega) (by omega)),
      if_neg (z 2 (by omega)), if_neg (e2 1 (by omega) (by omega)), if_neg (e2 2 (by omega) (by omega)), if_neg (e2 3 (by omega) (by omega)), if_neg (e2 4 (by omega) (by omega)),
      if_neg (z 3 (by omega)), if_neg (e3 1 (by omega) (by omega)), if_neg (e3 2 (by omega) (by omega)), if_neg (e3 3 (by omega) (by omega)), if_neg (e3 4 (by omega) (by omega)),
      if_neg (z 4 (by omega)), if_neg (e4 1 (by omega) (by omega)), if_neg (e4 2 (by omega) (by omega)), if_neg (e4 3 (by omega) (by omega)), if_neg (e4 4 (by omega) (by omega))]
    exact (hf j (by omega)).kept kk

/-- The list is whole: the condition above it. -/
theorem Lst.whole {B d : Nat} {S : Nat → List ByteArray} {len : Nat} {w : World} {B0 : Nat} (h : Lst B d S len len w) (hB : B0 ≤ B) (m a : ByteArray) (x : Bool) :
    CT w (fun b => B0 ≤ b) (d + 1) (.string m) (.pointer none) (.string a) (.bool x) (.slice (some ⟨B, 0, none⟩) len len) (m :: a :: cat S len) := by
  obtain ⟨_, f, hrow, hf⟩ := h
  refine ⟨m, a, x, _, len, len, S, rfl, rfl, rfl, rfl, rfl, rfl, .inr ⟨B, 0, rfl, hB, fun i hi => ⟨_, _, _, _, _, ⟨?_, ?_, ?_, ?_, ?_⟩, (hf i hi).wide fun b hb => by have : B + 1 ≤ b := hb; show B0 ≤ b; omega⟩⟩⟩
  all_goals rw [Nat.zero_add]; exact hrow.cell (by omega)

/-- No list below: whatever the address. -/
theorem CT.leaf (w : World) (R : Nat → Prop) (d : Nat) (m a : ByteArray) (x : Bool) (ao : Option Addr) (cap : Nat) (S : Nat → List ByteArray) :
    CT w R (d + 1) (.string m) (.pointer none) (.string a) (.bool x) (.slice ao 0 cap) (m :: a :: cat S 0) := ⟨m, a, x, ao, 0, cap, S, rfl, rfl, rfl, rfl, rfl, rfl, .inl rfl⟩

theorem ZT.pos {w : World} {R : Nat → Prop} {d : Nat} {v0 v1 v2 v3 : Value} {seq : List ByteArray} {N : Nat} (h : ZT w R d v0 v1 v2 v3 seq N) : 1 ≤ N := by
  cases d with
  | zero => exact h.elim
  | succ d =>
    obtain ⟨m, a, x, ao, len, cap, S, M, _, _, _, _, _, eN, _⟩ := h
    omega
theorem tot_ge (M : Nat → Nat) (n : Nat) (h : ∀ i, i < n → 1 ≤ M i) : n ≤ tot M n := by
  induction n with
  | zero => exact Nat.le_refl _
  | succ n ih =>
    have h1 := ih fun i hi => h i (by omega)
    have h2 := h n (by omega)
    simp only [tot]
    omega

/-- The world behind the first two blocks. -/
def W1 (w : World) (m a : ByteArray) (x : Bool) (v : Value) : World := (w.alloc (.cells #[.string m, .string a, .bool x, v] 44)).alloc (.cells #[.string ⟨#[]⟩, .pointer none, .string ⟨#[]⟩, .bool false, .slice none 0 0] 74)

set_option maxHeartbeats 1000000 in
set_option maxRecDepth 100000 in
theorem toCond_any (R : Nat → Prop) (d : Nat) : ∀ (w : World) (v0 v1 v2 v3 : Value) (seq : List ByteArray) (N : Nat) (fuel : Int), ZT w R d v0 v1 v2 v3 seq N → (∀ b, R b → b < w.heap.size) → N ≤ 4096 →
    d ≤ fuel → fuel ≤ 4097 → Calls Try.prog 36 #[.agg #[v0, v1, v2, v3], .int .i64 fuel] w (Made w d seq) := by
  induction d with
  | zero => intro _ _ _ _ _ _ _ _ h; exact h.elim
  | succ d ih =>
    rintro w v0 v1 v2 v3 seq N fuel ⟨m, a, x, ao, len, cap, S, M, rfl, rfl, rfl, rfl, es, eN, hc⟩ hR hN f0 f1
    have f2 : ¬ fuel ≤ 0 := by omega
    have f3 : decide (fuel ≤ 0) = false := decide_eq_false f2
    have HES : Hid (seq = m :: a :: cat S len) := es
    have HEN : Hid (N = 1 + tot M len) := eN
    have HR : Hid (∀ b, R b → b < w.heap.size) := hR
    have IH : Hid (∀ (w : World) (v0 v1 v2 v3 : Value) (seq : List ByteArray) (N : Nat) (fuel : Int), ZT w R d v0 v1 v2 v3 seq N → (∀ b, R b → b < w.heap.size) → N ≤ 4096 →
      d ≤ fuel → fuel ≤ 4097 → Calls Try.prog 36 #[.agg #[v0, v1, v2, v3], .int .i64 fuel] w (Made w d seq)) := ih
    clear es eN hR ih
    rcases hc with rfl | ⟨b, off, rfl, hb, hch⟩
    · cases ao with
      | none =>
        go_enter Try.func36, Try.ntmps36
        go_wp2_with (go_at_call 44; refine (m44 m a x none 0 0 _).mono ?_; rintro e w' ⟨rfl, rfl⟩)
        refine bodyPost_ret (v := .agg #[.string m, .pointer none, .string a, .bool x, .slice none 0 0]) (by simp [results, Try.results36, go_sem]) rfl ⟨m, a, x, none, 0, 0, rfl, ?_, ?_⟩
        · exact (((Below.refl _ _).alloc (Nat.le_refl _) _).alloc (by simp) _).alloc (by simp; omega) _
        · rw [HES.out]; exact CT.leaf _ _ _ _ _ _ _ _ _
      | some ad =>
        have hmk := mk72_0
        go_enter Try.func36, Try.ntmps36
        go_wp2_with fail
        refine wp_loop_rounds 1 ?_
        rw [rounds_succ]
        go_wp2_with (go_at_call 44; refine (m44 m a x _ 0 0 _).mono ?_; rintro e w' ⟨rfl, rfl⟩)
        refine bodyPost_ret (v := .agg #[.string m, .pointer none, .string a, .bool x, .slice (some ⟨w.heap.size + 1 + 1, 0, none⟩) 0 0]) (by simp [results, Try.results36, go_sem]) rfl ⟨m, a, x, _, 0, 0, rfl, ?_, ?_⟩
        · exact ((((Below.refl _ _).alloc (Nat.le_refl _) _).alloc (by simp) _).alloc (by simp; omega) _).alloc (by simp; omega) _
        · rw [HES.out]; exact CT.leaf _ _ _ _ _ _ _ _ _
    · have hlen : len ≤ 4096 := by
        have h1 := tot_ge M len fun i hi => by
          obtain ⟨_, _, _, _, _, ht⟩ := hch i hi
          exact ht.pos
        have h2 := HEN.out
        omega
      have HCH : Hid (∀ i, i < len → ∃ u0 u1 u2 u3,
        (w.cell? ⟨b, off + i * 4, none⟩ = some u0 ∧ w.cell? ⟨b, off + i * 4 + 1, none⟩ = some u1 ∧ w.cell? ⟨b, off + i * 4 + 2, none⟩ = some u2 ∧ w.cell? ⟨b, off + i * 4 + 3, none⟩ = some u3) ∧
        ZT w R d u0 u1 u2 u3 (S i) (M i)) := hch
      clear hch
      have HB : Hid (R b) := hb
      clear hb
      have hmk := make_wide (P := Try.prog) 72 74 _ 5 72 Try.underlying72 info74 len (by omega) (by omega)
      go_enter Try.func36, Try.ntmps36
      go_wp2_with fail
      clear hmk
      go_loopw [6] (fun i wr => ∃ k : Nat, k ≤ len ∧ i = .int .i64 k ∧ Below (w.heap.size + 1 + 1) (W1 w m a x (.slice (some ⟨b, off, none⟩) len cap)) wr ∧ Lst (w.heap.size + 1 + 1) d S len k wr) (fun i _ => len - (intOf i).toNat)
      case atStart => exact ⟨0, Nat.zero_le _, rfl, (Below.refl _ _).alloc (by simp [W1]) _, Lst.start d S _ _ (by simp)⟩
      case round =>
        obtain ⟨k, hk, rfl, hnx, hl⟩ := hrel
        have hbox : wr.cell? ⟨w.heap.size, 3, none⟩ = some (.slice (some ⟨b, off, none⟩) len cap) := (hnx.cell (p := ⟨w.heap.size, 3, none⟩) (by show w.heap.size < w.heap.size + 1 + 1; omega)).trans (by simp [W1, go_sem])
        by_cases hlt : k < len
        · have hbw : b < w.heap.size := HR.out b HB.out
          obtain ⟨u0, u1, u2, u3, ⟨c0, c1, c2, c3⟩, ht⟩ := HCH.out k hlt
          have hbel : Below w.heap.size w wr := (((Below.refl _ _).alloc (Nat.le_refl _) _).alloc (by simp) _).trans (hnx.mono (by omega))
          have e0 := (hbel.cell (p := ⟨b, off + k * 4, none⟩) hbw).trans c0
          have e1 := (hbel.cell (p := ⟨b, off + k * 4 + 1, none⟩) hbw).trans c1
          have e2 := (hbel.cell (p := ⟨b, off + k * 4 + 2, none⟩) hbw).trans c2
          have e3 := (hbel.cell (p := ⟨b, off + k * 4 + 3, none⟩) hbw).trans c3
          have htr : Hid (ZT wr R d u0 u1 u2 u3 (S k) (M k)) := ht.kept (Kept.below hbel HR.out)
          have hRr : Hid (∀ b, R b → b < wr.heap.size) := fun b h => Nat.lt_of_lt_of_le (HR.out b h) hbel.size
          have hMk : M k ≤ 4096 := by
            have h1 := tot_mem M len k hlt
            have h2 := HEN.out
            omega
          clear c0 c1 c2 c3 ht hbw hbel
          go_wp2_with fail
          refine (IH.out wr u0 u1 u2 u3 (S k) (M k) (fuel - 1) htr.out hRr.out hMk (by omega) (by omega)).mono ?_
          rintro e w1 ⟨m', a', x', ao', len', cap', rfl, hb1, hct⟩
          obtain ⟨f, hrow, _⟩ := hl.row
          have hrow1 : w1.rowIs (w.heap.size + 1 + 1) 74 (len * 5) f := hrow.of_block (hb1.block _ hrow.lt)
          have q0 := hrow1.cell (i := k * 5) (by omega)
          have q1 := hrow1.cell (i := k * 5 + 1) (by omega)
          have q2 := hrow1.cell (i := k * 5 + 2) (by omega)
          have q3 := hrow1.cell (i := k * 5 + 3) (by omega)
          have q4 := hrow1.cell (i := k * 5 + 4) (by omega)
          have qf := hrow1.frozen
          have hnew := hl.step hb1 hct
          have hnx1 : Below (w.heap.size + 1 + 1) (W1 w m a x (.slice (some ⟨b, off, none⟩) len cap)) w1 := hnx.trans (hb1.mono (by have := hl.size; omega))
          clear hb1 htr hRr hnx hbox e0 e1 e2 e3 hl hrow hrow1 hct
          go_wp2_with fail
          go_roundw
          case rel =>
            exact ⟨k + 1, by omega, by go_num, ((((hnx1.setCell (Nat.le_refl _) _).setCell (Nat.le_refl _) _).setCell (Nat.le_refl _) _).setCell (Nat.le_refl _) _).setCell (Nat.le_refl _) _, hnew⟩
          case measure => simp [intOf]; omega
        · obtain rfl : len = k := by omega
          have x0 : wr.cell? ⟨w.heap.size, 0, none⟩ = some (.string m) := (hnx.cell (p := ⟨w.heap.size, 0, none⟩) (by show w.heap.size < w.heap.size + 1 + 1; omega)).trans (by simp [W1, go_sem])
          have x1 : wr.cell? ⟨w.heap.size, 1, none⟩ = some (.string a) := (hnx.cell (p := ⟨w.heap.size, 1, none⟩) (by show w.heap.size < w.heap.size + 1 + 1; omega)).trans (by simp [W1, go_sem])
          have x2 : wr.cell? ⟨w.heap.size, 2, none⟩ = some (.bool x) := (hnx.cell (p := ⟨w.heap.size, 2, none⟩) (by show w.heap.size < w.heap.size + 1 + 1; omega)).trans (by simp [W1, go_sem])
          have hsz : w.heap.size + 1 < wr.heap.size := by have := hl.size; omega
          go_wp2_with fail
          refine (m44' m a x _ len len wr).mono ?_
          rintro e w2 ⟨rfl, hb2⟩
          have y : ∀ j v, (W1 w m a x (.slice (some ⟨b, off, none⟩) len cap)).cell? ⟨w.heap.size + 1, j, none⟩ = some v → w2.cell? ⟨w.heap.size + 1, j, none⟩ = some v := fun j v h =>
            (hb2.cell (p := ⟨w.heap.size + 1, j, none⟩) hsz).trans ((hnx.cell (p := ⟨w.heap.size + 1, j, none⟩) (by show w.heap.size + 1 < w.heap.size + 1 + 1; omega)).trans h)
          have y0 := y 0 (.string ⟨#[]⟩) (by simp [W1, go_sem])
          have y1 := y 1 (.pointer none) (by simp [W1, go_sem])
          have y2 := y 2 (.string ⟨#[]⟩) (by simp [W1, go_sem])
          have y3 := y 3 (.bool false) (by simp [W1, go_sem])
          have y4 := y 4 (.slice none 0 0) (by simp [W1, go_sem])
          have yf : ∀ j, w2.frozen? ⟨w.heap.size + 1, j, none⟩ = false := fun j =>
            (hb2.frozen (p := ⟨w.heap.size + 1, j, none⟩) hsz).trans ((hnx.frozen (p := ⟨w.heap.size + 1, j, none⟩) (by show w.heap.size + 1 < w.heap.size + 1 + 1; omega)).trans (by simp [W1, go_sem]))
          clear y
          have hbel : Below w.heap.size w w2 := ((((Below.refl _ _).alloc (Nat.le_refl _) _).alloc (by simp) _).trans (hnx.mono (by omega))).trans (hb2.mono (by omega))
          have hfin : Hid (CT (set5 w2 (w.heap.size + 1) 0 (.string m) (.pointer none) (.string a) (.bool x) (.slice (some ⟨w.heap.size + 1 + 1, 0, none⟩) len len)) (fun b => w.heap.size ≤ b) (d + 1) (.string m) (.pointer none) (.string a) (.bool x) (.slice (some ⟨w.heap.size + 1 + 1, 0, none⟩) len len) seq) := by
            have h1 := Lst.whole (B0 := w.heap.size + 1 + 1) hl (Nat.le_refl _) m a x
            rw [← HES.out] at h1
            have h2 := (h1.kept (w' := w2) fun b o v hb' hv => (hb2.cell (p := ⟨b, o, none⟩) (cell_lt hv)).trans hv).kept (set5_kept (R := fun b => w.heap.size + 1 + 1 ≤ b) (B := w.heap.size + 1) w2 0 (.string m) (.pointer none) (.string a) (.bool x) (.slice (some ⟨w.heap.size + 1 + 1, 0, none⟩) len len) (by show ¬ w.heap.size + 1 + 1 ≤ w.heap.size + 1; omega))
            exact h2.wide fun b hb' => by have : w.heap.size + 1 + 1 ≤ b := hb'; show w.heap.size ≤ b; omega
          clear hl hnx hb2 hbox x0 x1 x2
          go_wp2_with fail
          refine bodyPost_ret (v := .agg #[.string m, .pointer none, .string a, .bool x, .slice (some ⟨w.heap.size + 1 + 1, 0, none⟩) len len]) (by simp [results, Try.results36, go_sem, y0, y1, y2, y3, y4]) rfl ⟨m, a, x, _, len, len, rfl, ?_, ?_⟩
          · exact ((((hbel.setCell (by show w.heap.size ≤ w.heap.size + 1; omega) _).setCell (by show w.heap.size ≤ w.heap.size + 1; omega) _).setCell (by show w.heap.size ≤ w.heap.size + 1; omega) _).setCell (by show w.heap.size ≤ w.heap.size + 1; omega) _).setCell (by show w.heap.size ≤ w.heap.size + 1; omega) _
          · exact hfin.out
end Go.Proofs.Qxb6605753a
