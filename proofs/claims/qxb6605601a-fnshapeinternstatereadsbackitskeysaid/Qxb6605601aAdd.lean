/-
  (*transitionTable).addState: n times -3 behind the table.
-/
import Derived.Test.Qxb6605601aKeys
import Derived.Below
import Derived.Deep.OwnRows
import Derived.Maps.AppendAt
namespace Go.Proofs.Qxb6605601a
open Go.RowKit Go.Maps Go.Deep

/-- What a call does that turns the blocks 'own' alone, and lays new ones. -/
structure Turn (own : Nat → Prop) (w w' : World) : Prop where
  os : w'.os = w.os
  tape : w'.tape = w.tape
  output : w'.output = w.output
  size : w.heap.size ≤ w'.heap.size
  block : ∀ b, b < w.heap.size → ¬ own b → w'.heap[b]? = w.heap[b]?

theorem Turn.refl (own : Nat → Prop) (w : World) : Turn own w w := ⟨rfl, rfl, rfl, Nat.le_refl _, fun _ _ _ => rfl⟩
theorem Turn.trans {own own1 : Nat → Prop} {w w1 w2 : World} (h : Turn own w w1) (k : Turn own1 w1 w2) (e : ∀ b, own1 b → own b ∨ w.heap.size ≤ b) : Turn own w w2 :=
  ⟨k.os.trans h.os, k.tape.trans h.tape, k.output.trans h.output, Nat.le_trans h.size k.size, fun b hb hn => (k.block b (Nat.lt_of_lt_of_le hb h.size) (fun h1 => (e b h1).elim hn (fun h2 => by omega))).trans (h.block b hb hn)⟩
theorem Turn.below {own : Nat → Prop} {w w' : World} {B : Nat} (h : Turn own w w') (hB : B ≤ w.heap.size) (ho : ∀ b, own b → B ≤ b) : Below B w w' :=
  ⟨h.os, h.tape, h.output, h.size, fun b hb => h.block b (by omega) (fun h1 => by have := ho b h1; omega)⟩
theorem Turn.of_below {own : Nat → Prop} {w w' : World} (h : Below w.heap.size w w') : Turn own w w' := ⟨h.os, h.tape, h.output, h.size, fun b hb _ => h.block b hb⟩
theorem Turn.of_grown {own : Nat → Prop} {w w' : World} {row : Option Nat} (h : w.grownBy w' row) (e : ∀ b, row = some b → own b) : Turn own w w' :=
  ⟨h.os, h.tape, h.output, h.size, fun b hb hn => h.block b hb (fun h1 => hn (e b h1.symm))⟩
theorem Turn.of_alloc {own : Nat → Prop} (w : World) (o : Obj) : Turn own w (w.alloc o) := Turn.of_below ((Below.refl _ _).alloc (Nat.le_refl _) _)
theorem Turn.of_set {own : Nat → Prop} (w : World) (a : Addr) (v : Value) (h : own a.block) : Turn own w (w.setCell a v) :=
  ⟨rfl, rfl, rfl, by simp [World.setCell], fun b _ hn => blk_setCell_other _ _ _ _ (fun e => hn (e ▸ h))⟩

/-- Where a row and a block of another type lie. -/
theorem row_ne {w : World} {base g n m k : Nat} {T e : TypeId} {f : Nat → Value} {v : Value} {xs : List Value} (h : w.rowIs g T n f) (k : w.ownsRow base e m v k xs) (ht : T ≠ e) : v.ownBlock ≠ some g := by
  intro hv
  rcases k.2 with ⟨rfl, _⟩ | ⟨b, cap, cur, rfl, _, hb, _⟩
  · cases hv
  · cases hv
    obtain ⟨c, hc, _⟩ := h
    rw [hb] at hc
    cases hc
    exact ht rfl

theorem sl_form {w : World} {base m k : Nat} {e : TypeId} {v : Value} {xs : List Value} (k : w.ownsRow base e m v k xs) : ∃ a l c, v = .slice a l c := by
  rcases k.2 with ⟨rfl, _⟩ | ⟨b, cap, cur, rfl, _, hb, _⟩
  · exact ⟨_, _, _, rfl⟩
  · exact ⟨_, _, _, rfl⟩

theorem grown_set (w : World) (g i : Nat) (v : Value) : w.grownBy (w.setCell ⟨g, i, none⟩ v) (some g) :=
  ⟨rfl, rfl, rfl, by simp [World.setCell], fun b _ hn => blk_setCell_other _ _ _ _ (fun e => hn (by rw [e]))⟩

theorem info21 : (Try.prog.info? 21).map (fun i => (i.zero, i.size, i.bytes)) = some (some (.int .i32 0), 1, 4) := by kernel_rfl

abbrev M3 : Value := .int .i32 (-3)

set_option maxRecDepth 100000 in
set_option maxHeartbeats 400000 in
theorem add_any (base g k n : Nat) (f : Nat → Value) (v : Value) (xs : List Value) (w : World) (hr : w.rowIs g 69 263 f) (hn : f 261 = .int .i64 n) (hv : f 262 = v) (hown : w.ownsRow base 21 1 v k xs) (hb : base ≤ w.heap.size) (hsm : k + n ≤ 4194304) :
    Calls Try.prog 28 #[.pointer (some ⟨g, 4, none⟩)] w fun e w' => e = .returned (.tuple #[]) ∧ ∃ v', w'.rowIs g 69 263 (fun j => if j = 262 then v' else f j) ∧ w'.ownsRow base 21 1 v' (k + n) (xs ++ List.replicate n M3) ∧
      Turn (fun b => b = g ∨ v.ownBlock = some b) w w' ∧ ∀ b, v'.ownBlock = some b → v.ownBlock = some b ∨ w.heap.size ≤ b := by
  obtain ⟨i0, hi, hz0, hz1, hz2⟩ := info_parts info21
  have c1 := hr.cell (i := 261) (by omega)
  rw [hn] at c1
  go_enter Try.func28, Try.ntmps28
  go_wp2_with fail
  go_loopw [7] (fun i wr => ∃ (j : Nat) (v' : Value), j ≤ n ∧ i = .int .i64 j ∧ wr.rowIs g 69 263 (fun j => if j = 262 then v' else f j) ∧ wr.ownsRow base 21 1 v' (k + j) (xs ++ List.replicate j M3) ∧ Turn (fun b => b = g ∨ v.ownBlock = some b) w wr ∧ ∀ b, v'.ownBlock = some b → v.ownBlock = some b ∨ w.heap.size ≤ b) (fun i _ => n - (intOf i).toNat)
  case atStart => exact ⟨0, v, Nat.zero_le _, rfl, hr.congr (fun i _ => by by_cases e : i = 262 <;> simp [e, hv]), by simpa using hown, Turn.refl _ _, fun b h => .inl h⟩
  case round =>
    obtain ⟨j, v', hj, rfl, hrow, how, ht, hloc0⟩ := hrel
    have y1 := hrow.cell (i := 262) (by omega)
    have y2 := hrow.frozen 262
    simp only [if_true] at y1
    have HR : Hid (wr.rowIs g 69 263 (fun j => if j = 262 then v' else f j)) := hrow
    have HNe : Hid (v'.ownBlock ≠ some g) := row_ne hrow how (by decide)
    have hsz : w.heap.size ≤ wr.heap.size := ht.size
    by_cases hlt : j < n
    · go_wp2_with (at_builtin; refine wpList_append_own_at _ rfl _ _ 24 rfl base 21 i0 (.int .i32 0) 1 4 Try.underlying24 hi hz0 hz1 hz2 rfl (by decide) _ _ _ rfl (World.ownsRow.alloc how _) ⟨wr.heap.size, 0, none⟩ 1 1 [M3] rfl rfl (cell_one_new _ _ _) (by intro u hu; simp at hu; subst hu; rfl) (by unfold maxLen; omega) (by omega) (by simp; omega) ?_; intro v2 w1 hown' hgrow hnil hloc; obtain ⟨a2, l2, c2, rfl⟩ := sl_form hown'; have hrow1 : w1.rowIs g 69 263 (fun j => if j = 262 then v' else f j) := (HR.out.alloc _).of_block (hgrow.block g (HR.out.alloc _).lt (fun e => HNe.out e.symm)); have z1 := hrow1.cell (i := 262) (by omega); have z2 := hrow1.frozen 262; simp only [if_true] at z1; have HR1 : Hid (w1.rowIs g 69 263 (fun j => if j = 262 then v' else f j)) := hrow1; clear hrow1)
      go_roundw
      case rel =>
        have hset := HR1.out.set 262 (.slice a2 l2 c2)
        refine ⟨j + 1, .slice a2 l2 c2, by omega, by go_num, hset.congr (fun i _ => by by_cases e : i = 262 <;> simp [e]), ?_, ?_, ?_⟩
        · have hk : World.ownsRow w1 base 21 1 (.slice a2 l2 c2) (k + (j + 1)) (xs ++ List.replicate (j + 1) M3) := by
            rw [List.replicate_succ', ← List.append_assoc]
            exact hown'
          exact hk.kept (grown_set w1 g _ _) (.inr (row_ne HR1.out hk (by decide)))
        · exact ((ht.trans (Turn.of_alloc (own := fun _ => False) wr _) (fun b h => h.elim)).trans (Turn.of_grown hgrow (own := fun b => v'.ownBlock = some b) (fun b h => h)) (fun b h => (hloc0 b h).imp .inr id)).trans (Turn.of_set (own := fun b => b = g) w1 ⟨g, 262, none⟩ _ rfl) (fun b h => .inl (.inl h))
        · intro b hb2
          rcases hloc with h | h
          · exact hloc0 b (h ▸ hb2)
          · rw [h] at hb2
            cases hb2
            exact .inr (by simp; omega)
      case measure => simp [intOf]; omega
    · obtain rfl : n = j := by omega
      go_wp2_with fail
      go_end0
      exact ⟨rfl, v', HR.out, how, ht, hloc0⟩
end Go.Proofs.Qxb6605601a
