/-
  settles, complete, shape, Complete; toSnapshot.
-/
import Derived.Test.Qxb6605778aFmtSnap2
namespace Go.Proofs.Qxb6605778aFmt
open Go.RowKit Go.Deep

def sett (k : Int) (t : TL) : Bool := match t with | none => true | some x => decide (k ≤ x.1)
def tlNo (c : CH) : Bool := match c with | none => true | some x => x.2.2.isNone
def form (m : Bool) (c md : CH) : Bool := !m && (match c with | none => true | some x => !x.1 && !decide (x.2.1 = ByteArray.empty)) && (match md with | none => false | some x => !x.1)

theorem settles_any (b o : Nat) (l k : Int) (w : World) (c0 : w.cell? ⟨b, o, none⟩ = some (.int .i64 l)) : Calls Tryf.prog 32 #[.pointer (some ⟨b, o, none⟩), .int .i64 k] w fun e w' => e = .returned (.bool (decide (k ≤ l))) ∧ w' = w := by
  go_enter Tryf.func32, Tryf.ntmps32
  go_wp2
  go_ret
  exact ⟨rfl, rfl⟩

theorem complC (p : Option Addr) (c : CH) (w : World) (h : CHp w (.pointer p) c Any) : Calls Tryf.prog 33 #[.pointer p] w fun e w' => e = .returned (.bool (match c with | none => true | some x => sett 4096 x.2.2)) ∧ w' = w := by
  rcases h with ⟨hp, rfl⟩ | ⟨b, o, d, cap, la, ll, lc, q, tl, hp, c0, c1, c2, c3, hl, ht, rfl⟩
  · cases hp
    go_enter Tryf.func33, Tryf.ntmps33
    go_wp2
    go_ret
    exact ⟨rfl, rfl⟩
  · cases hp
    rcases ht with ⟨hq, rfl⟩ | ⟨b', o', l, r, hq, q0, q1, rfl⟩
    · cases hq
      go_enter Tryf.func33, Tryf.ntmps33
      go_wp2_with fail
      go_ret
      exact ⟨rfl, rfl⟩
    · cases hq
      have A := settles_any b' o' l 4096 w q0
      go_enter Tryf.func33, Tryf.ntmps33
      go_wp2_with (go_at_call 32; refine A.mono ?_; rintro e w1 ⟨rfl, rfl⟩)
      go_ret
      exact ⟨rfl, rfl⟩

theorem complD (la : Option Addr) (ll lc : Nat) (q : Option Addr) (tl : TL) (w : World) (h : TLp w (.pointer q) tl) : Calls Tryf.prog 35 #[.agg #[.slice la ll lc, .pointer q]] w fun e w' => e = .returned (.bool (sett 65536 tl)) ∧ Below w.heap.size w w' := by
  rcases h with ⟨hq, rfl⟩ | ⟨b', o', l, r, hq, q0, q1, rfl⟩
  · cases hq
    go_enter Tryf.func35, Tryf.ntmps35
    go_wp2_with fail
    go_ret
    exact ⟨rfl, alB _ _⟩
  · cases hq
    have A := fun w' h => settles_any b' o' l 65536 w' h
    go_enter Tryf.func35, Tryf.ntmps35
    go_wp2_with (go_at_call 32; refine (A _ (cellB (alB _ _) q0)).mono ?_; rintro e w1 ⟨rfl, rfl⟩)
    go_ret
    exact ⟨rfl, alB _ _⟩

theorem new_any (r : ByteArray) (w : World) : Calls Tryf.prog 37 #[.string r] w fun e w' => ∃ p, e = .returned (.iface 81 (.pointer p)) ∧ Below w.heap.size w w' := by
  go_enter Tryf.func37, Tryf.ntmps37
  go_wp2
  go_ret
  exact ⟨_, rfl, alB _ _⟩

theorem refusal_any (b o : Nat) (r : ByteArray) (w : World) (c1 : w.cell? ⟨b, o + 1, none⟩ = some (.string r)) : Calls Tryf.prog 39 #[.pointer (some ⟨b, o, none⟩)] w fun e w' => ∃ p, e = .returned (.iface 86 (.pointer p)) ∧ Below w.heap.size w w' := by
  go_enter Tryf.func39, Tryf.ntmps39
  go_wp2_with fail
  refine (new_any r _).mono ?_
  rintro e w1 ⟨p, rfl, hb⟩
  go_wp2_with fail
  go_ret
  exact ⟨_, rfl, hb.trans ((alB _ _).mono hb.size)⟩

theorem malf_any (w : World) : Calls Tryf.prog 42 #[.string F3, .slice none 0 0] w fun e w' => ∃ p, e = .returned (.iface 86 (.pointer p)) ∧ Below w.heap.size w w' := by
  go_enter Tryf.func42, Tryf.ntmps42
  go_wp2_with fail
  refine (errorf3 _).mono ?_
  rintro e w1 ⟨⟨v, rfl⟩, hb⟩
  go_wp2_with fail
  go_ret
  exact ⟨_, rfl, hb.trans ((alB _ _).mono hb.size)⟩

theorem notSnap_any (w : World) : Calls Tryf.prog 40 #[] w fun e w' => ∃ p, e = .returned (.iface 86 (.pointer p)) ∧ Below w.heap.size w w' := by
  go_enter Tryf.func40, Tryf.ntmps40
  go_wp2_with fail
  refine (malf_any _).mono ?_
  rintro e w1 ⟨v, rfl, hb⟩
  go_wp2_with fail
  go_ret
  exact ⟨_, rfl, hb⟩

/-- Block g holds no string and no slice. -/
def Soft (w : World) (g : Nat) : Prop := ∀ o x, w.cell? ⟨g, o, none⟩ = some x → (∀ r, x ≠ .string r) ∧ ∀ a l c, x ≠ .slice a l c

theorem TLp.but {w w' : World} {v : Value} {t : TL} {g : Nat} (h : TLp w v t) (s : Soft w g) (k : ∀ b o, b ≠ g → w'.cell? ⟨b, o, none⟩ = w.cell? ⟨b, o, none⟩) : TLp w' v t := by
  rcases h with h | ⟨b, o, l, r, hv, c0, c1, ht⟩
  · exact .inl h
  · have hb : b ≠ g := fun e => by subst e; exact (s _ _ c1).1 r rfl
    exact .inr ⟨b, o, l, r, hv, (k _ _ hb).trans c0, (k _ _ hb).trans c1, ht⟩
theorem CHp.but {w w' : World} {v : Value} {c : CH} {g : Nat} (h : CHp w v c Any) (s : Soft w g) (k : ∀ b o, b ≠ g → w'.cell? ⟨b, o, none⟩ = w.cell? ⟨b, o, none⟩) : CHp w' v c Any := by
  rcases h with h | ⟨b, o, d, cap, la, ll, lc, p, tl, hv, c0, c1, c2, c3, hl, ht, hc⟩
  · exact .inl h
  · have hb : b ≠ g := fun e => by subst e; exact (s _ _ c1).1 _ rfl
    exact .inr ⟨b, o, d, cap, la, ll, lc, p, tl, hv, (k _ _ hb).trans c0, (k _ _ hb).trans c1, (k _ _ hb).trans c2, (k _ _ hb).trans c3, hl, ht.but s k, hc⟩
theorem DCp.but {w w' : World} {v : Value} {c : DC} {g : Nat} (h : DCp w v c Any) (s : Soft w g) (k : ∀ b o, b ≠ g → w'.cell? ⟨b, o, none⟩ = w.cell? ⟨b, o, none⟩) : DCp w' v c Any := by
  rcases h with h | ⟨b, o, la, ll, lc, p, tl, hv, c0, c1, hl, ht, hc⟩
  · exact .inl h
  · have hb : b ≠ g := fun e => by subst e; exact (s _ _ c0).2 _ _ _ rfl
    exact .inr ⟨b, o, la, ll, lc, p, tl, hv, (k _ _ hb).trans c0, (k _ _ hb).trans c1, hl, ht.but s k, hc⟩

def Z5 : Array Value := #[.pointer none, .bool false, .pointer none, .pointer none, .pointer none]
theorem soft5 {w : World} {g : Nat} (h : w.heap[g]? = some (.cells Z5 44 (0, 0))) : Soft w g := by
  intro o x hx
  have e : w.cell? ⟨g, o, none⟩ = Z5[o]? := by simp [World.cell?, h]
  rw [e] at hx
  have hm : x ∈ Z5 := Array.mem_of_getElem? hx
  have hd : x = .pointer none ∨ x = .bool false := by
    simp [Z5] at hm
    rcases hm with h | h | h <;> first | exact .inl h | exact .inr h
  constructor
  · intro r hr
    rcases hd with h | h <;> (rw [h] at hr; cases hr)
  · intro a l c hr
    rcases hd with h | h <;> (rw [h] at hr; cases hr)

set_option maxRecDepth 100000 in
set_option maxHeartbeats 1000000 in
theorem toSnap (p0 p2 p3 p4 : Option Addr) (m : Bool) (t : TL) (c md : CH) (d : DC) (w : World) (h0 : TLp w (.pointer p0) t) (h2 : CHp w (.pointer p2) c Any) (h3 : CHp w (.pointer p3) md Any) (h4 : DCp w (.pointer p4) d Any) :
    Calls Tryf.prog 18 #[.pointer p0, .bool m, .pointer p2, .pointer p3, .pointer p4] w fun e w' => ∃ q0 q2 q3 q4, e = .returned (.agg #[.pointer q0, .bool m, .pointer q2, .pointer q3, .pointer q4]) ∧
      TLp w' (.pointer q0) t ∧ CHp w' (.pointer q2) c Any ∧ CHp w' (.pointer q3) md Any ∧ DCp w' (.pointer q4) d Any ∧ Below w.heap.size w w' := by
  have H0 : Hid (TLp w (.pointer p0) t) := h0
  have H2 : Hid (CHp w (.pointer p2) c Any) := h2
  have H3 : Hid (CHp w (.pointer p3) md Any) := h3
  have H4 : Hid (DCp w (.pointer p4) d Any) := h4
  clear h0 h2 h3 h4
  have hb0 := alB w (.cells Z5 44)
  have hg0 : (w.alloc (.cells Z5 44)).heap[w.heap.size]? = some (.cells Z5 44 (0, 0)) := blk_alloc_new _ _
  have A := toTL (.pointer p0) t _ (H0.out.kept hb0)
  go_enter Tryf.func18, Tryf.ntmps18
  go_wp2_with fail
  refine A.mono ?_
  rintro e w1 ⟨q0, rfl, T0, b1⟩
  have B1 := hb0.trans (b1.mono hb0.size)
  go_wp2_with fail
  refine (toCH (.pointer p2) c _ (H2.out.kept B1)).mono ?_
  rintro e w2 ⟨q2, rfl, T2, b2⟩
  have B2 := B1.trans (b2.mono B1.size)
  go_wp2_with fail
  refine (toCH (.pointer p3) md _ (H3.out.kept B2)).mono ?_
  rintro e w3 ⟨q3, rfl, T3, b3⟩
  have B3 := B2.trans (b3.mono B2.size)
  go_wp2_with fail
  refine (toDC (.pointer p4) d _ (H4.out.kept B3)).mono ?_
  rintro e w4 ⟨q4, rfl, T4, b4⟩
  have B4 := B3.trans (b4.mono B3.size)
  have hg1 := (b1.block w.heap.size (by simp)).trans hg0
  have hg2 := (b2.block w.heap.size (by have := b1.size; simp at this; omega)).trans hg1
  have hg3 := (b3.block w.heap.size (by have := b1.size; have := b2.size; simp at *; omega)).trans hg2
  have hg4 := (b4.block w.heap.size (by have := b1.size; have := b2.size; have := b3.size; simp at *; omega)).trans hg3
  have S := soft5 hg4
  have P0 : Hid (TLp w4 (.pointer q0) t) := ((T0.kept b2).kept b3).kept b4
  have P2 : Hid (CHp w4 (.pointer q2) c Any) := (T2.kept b3).kept b4
  have P3 : Hid (CHp w4 (.pointer q3) md Any) := T3.kept b4
  have P4 : Hid (DCp w4 (.pointer q4) d Any) := T4
  have HS : Hid (Soft w4 w.heap.size) := S
  have HB : Hid (Below w.heap.size w w4) := B4
  have y0 : w4.cell? ⟨w.heap.size, 0, none⟩ = some (.pointer none) := by simp [World.cell?, hg4, Z5]
  have y1 : w4.cell? ⟨w.heap.size, 1, none⟩ = some (.bool false) := by simp [World.cell?, hg4, Z5]
  have y2 : w4.cell? ⟨w.heap.size, 2, none⟩ = some (.pointer none) := by simp [World.cell?, hg4, Z5]
  have y3 : w4.cell? ⟨w.heap.size, 3, none⟩ = some (.pointer none) := by simp [World.cell?, hg4, Z5]
  have y4 : w4.cell? ⟨w.heap.size, 4, none⟩ = some (.pointer none) := by simp [World.cell?, hg4, Z5]
  have z : ∀ i, w4.frozen? ⟨w.heap.size, i, none⟩ = false := fun i => by simp [World.frozen?, hg4]
  clear T0 T2 T3 T4 b1 b2 b3 b4 B1 B2 B3 B4 hg0 hg1 hg2 hg3 hg4 S A hb0
  go_wp2_with fail
  refine bodyPost_ret (v := .agg #[.pointer q0, .bool m, .pointer q2, .pointer q3, .pointer q4]) (by simp [results, Tryf.results18, go_sem, y0, y1, y2, y3, y4]) rfl ⟨q0, q2, q3, q4, rfl, ?_⟩
  have k : ∀ b o, b ≠ w.heap.size → (((((w4.setCell ⟨w.heap.size, 0, none⟩ (.pointer q0)).setCell ⟨w.heap.size, 1, none⟩ (.bool m)).setCell ⟨w.heap.size, 2, none⟩ (.pointer q2)).setCell ⟨w.heap.size, 3, none⟩ (.pointer q3)).setCell ⟨w.heap.size, 4, none⟩ (.pointer q4)).cell? ⟨b, o, none⟩ = w4.cell? ⟨b, o, none⟩ := fun b o hb => by
    have hb' : w.heap.size ≠ b := fun e => hb e.symm
    simp [World.cell?_setCell_far, hb']
  exact ⟨P0.out.but HS.out k, P2.out.but HS.out k, P3.out.but HS.out k, P4.out.but HS.out k, ((((HB.out.setCell (Nat.le_refl _) _).setCell (Nat.le_refl _) _).setCell (Nat.le_refl _) _).setCell (Nat.le_refl _) _).setCell (Nat.le_refl _) _⟩

def compl (t : TL) (m : Bool) (c md : CH) (d : DC) : Bool :=
  match t with
  | some x => decide (67108864 ≤ x.1)
  | none => if !(match c with | none => true | some x => sett 4096 x.2.2) || !(match md with | none => true | some x => sett 4096 x.2.2) then false else if !(tlNo c && tlNo md && form m c md) then true else match d with | none => false | some x => sett 65536 x

end Go.Proofs.Qxb6605778aFmt
