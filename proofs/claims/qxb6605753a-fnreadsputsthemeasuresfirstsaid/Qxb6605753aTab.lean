/-
  THE TABLE THAT THE LAW 'FnThroughIsSumOfYearlyCosts' LAYS: two rows of pointers, each to a Rat of its own. No walk here.
-/
import Derived.Test.Qxb6605753aRat
import Derived.Deep.OwnRows
namespace Go.Proofs.Qxb6605753a
open Go.RowKit Go.Deep

theorem cell_lt {w : World} {b o : Nat} {v : Value} (h : w.cell? ⟨b, o, none⟩ = some v) : b < w.heap.size := by
  refine Nat.lt_of_not_le fun hn => ?_
  have : w.heap[b]? = none := Array.getElem?_eq_none hn
  simp [World.cell?, this] at h

/-- From block B on all that was there reads as it did. -/
def Keeps (B : Nat) (w w' : World) : Prop := ∀ b o, B ≤ b → b < w.heap.size → w'.cell? ⟨b, o, none⟩ = w.cell? ⟨b, o, none⟩

theorem Keeps.below {B : Nat} {w w' : World} (h : Below w.heap.size w w') : Keeps B w w' := fun b o _ hb => h.cell (p := ⟨b, o, none⟩) hb
theorem Keeps.set {B : Nat} {w : World} {a : Addr} (h : a.block < B) (v : Value) : Keeps B w (w.setCell a v) := fun b o hb _ => by
  exact World.cell?_of_block (w := w) (Below.heap_setCell _ _ _ _ (by show b ≠ a.block; omega))
theorem Keeps.trans {B : Nat} {w w' w'' : World} (h : Keeps B w w') (hs : w.heap.size ≤ w'.heap.size) (k : Keeps B w' w'') : Keeps B w w'' :=
  fun b o hb hl => (k b o hb (by omega)).trans (h b o hb hl)

/-- At block p lies the Rat v, v a whole number from 0 on; all its blocks lie from B on. -/
def RatIs (B : Nat) (w : World) (p : Nat) (v : Int) : Prop :=
  B ≤ p ∧ 0 ≤ v ∧ v ≤ 9223372036854775807 ∧ w.cell? ⟨p, 0, none⟩ = some (.bool false) ∧ w.cell? ⟨p, 2, none⟩ = some (.bool false) ∧
  (∃ r, B ≤ r ∧ w.cell? ⟨p, 3, none⟩ = some (.slice (some ⟨r, 0, none⟩) 1 1) ∧ w.cell? ⟨r, 0, none⟩ = some (.int .u64 1)) ∧
  ((v = 0 ∧ w.cell? ⟨p, 1, none⟩ = some (.slice none 0 0)) ∨ (0 < v ∧ ∃ q, B ≤ q ∧ w.cell? ⟨p, 1, none⟩ = some (.slice (some ⟨q, 0, none⟩) 1 1) ∧ w.cell? ⟨q, 0, none⟩ = some (.int .u64 v)))

theorem RatIs.keeps {B : Nat} {w w' : World} {p : Nat} {v : Int} (h : RatIs B w p v) (k : Keeps B w w') : RatIs B w' p v := by
  obtain ⟨hp, v0, v1, c0, c2, ⟨r, hr, c3, cr⟩, hv⟩ := h
  have g : ∀ b o x, B ≤ b → w.cell? ⟨b, o, none⟩ = some x → w'.cell? ⟨b, o, none⟩ = some x := fun b o x hb hx => (k b o hb (cell_lt hx)).trans hx
  refine ⟨hp, v0, v1, g _ _ _ hp c0, g _ _ _ hp c2, ⟨r, hr, g _ _ _ hp c3, g _ _ _ hr cr⟩, ?_⟩
  rcases hv with ⟨h0, c1⟩ | ⟨h0, q, hq, c1, cq⟩
  · exact .inl ⟨h0, g _ _ _ hp c1⟩
  · exact .inr ⟨h0, q, hq, g _ _ _ hp c1, g _ _ _ hq cq⟩

theorem RatIs.mono {B B' : Nat} {w : World} {p : Nat} {v : Int} (h : RatIs B w p v) (hB : B' ≤ B) : RatIs B' w p v := by
  obtain ⟨hp, v0, v1, c0, c2, ⟨r, hr, c3, cr⟩, hv⟩ := h
  refine ⟨by omega, v0, v1, c0, c2, ⟨r, by omega, c3, cr⟩, ?_⟩
  rcases hv with ⟨h0, c1⟩ | ⟨h0, q, hq, c1, cq⟩
  · exact .inl ⟨h0, c1⟩
  · exact .inr ⟨h0, q, by omega, c1, cq⟩

/-- '(*Rat).SetInt64(v)' on a new Rat. -/
theorem set_any (v : Int) (h0 : 0 ≤ v) (h1 : v ≤ 9223372036854775807) (w : World) :
    Calls Try.prog 7 #[.pointer (some ⟨w.heap.size, 0, none⟩), .int .i64 v] (w.alloc ratZ) fun e w' =>
      e = .returned (.pointer (some ⟨w.heap.size, 0, none⟩)) ∧ Below w.heap.size w w' ∧ RatIs w.heap.size w' w.heap.size v := by
  by_cases hz : v = 0
  · subst hz
    refine (set_zero w).mono ?_
    rintro e w' ⟨rfl, rfl⟩
    refine ⟨rfl, ((Below.refl _ _).alloc (Nat.le_refl _) _).alloc (by simp) _, Nat.le_refl _, h0, h1, ?_, ?_, ⟨w.heap.size + 1, by omega, ?_, ?_⟩, .inl ⟨rfl, ?_⟩⟩ <;> simp [go_sem, World.cell?_alloc_past]
    all_goals rfl
  · refine (set_pos v (by omega) h1 w).mono ?_
    rintro e w' ⟨rfl, rfl⟩
    refine ⟨rfl, (((Below.refl _ _).alloc (Nat.le_refl _) _).alloc (by simp) _).alloc (by simp; omega) _, Nat.le_refl _, h0, h1, ?_, ?_, ⟨w.heap.size + 2, by omega, ?_, ?_⟩, .inr ⟨by omega, w.heap.size + 1, by omega, ?_, ?_⟩⟩ <;> simp [go_sem, World.cell?_alloc_past]
    all_goals rfl

/-- 'ratInt' of a Rat that is a whole number. -/
theorem ratInt_any {B : Nat} (p : Nat) (v : Int) (w : World) (h : RatIs B w p v) :
    Calls Try.prog 9 #[.pointer (some ⟨p, 0, none⟩)] w fun e w' => e = .returned (.tuple #[.int .i64 v, .bool true]) ∧ w' = w := by
  obtain ⟨hp, v0, v1, c0, c2, ⟨r, hr, c3, cr⟩, hv⟩ := h
  rcases hv with ⟨h0, c1⟩ | ⟨h0, q, hq, c1, cq⟩
  · subst h0
    exact ratInt_zero p r w c0 c1 c2 c3 cr
  · exact ratInt_pos p q r v h0 v1 w c0 c1 c2 c3 cq cr

/-- The sum of the first k. -/
def psum (f : Nat → Int) : Nat → Int
  | 0 => 0
  | k + 1 => psum f k + f k

theorem psum_bd (f : Nat → Int) (k : Nat) (h : ∀ j, j < k → 0 ≤ f j ∧ f j ≤ 70368744177664) : 0 ≤ psum f k ∧ psum f k ≤ 70368744177664 * k := by
  induction k with
  | zero => exact ⟨Int.le_refl _, by simp [psum]⟩
  | succ k ih =>
    have := ih fun j hj => h j (by omega)
    have := h k (by omega)
    simp only [psum]
    omega

/-- THE TABLE, its first i columns filled. -/
structure Tab (B : Nat) (f : Nat → Int) (n i : Nat) (w : World) : Prop where
  size : B + 2 ≤ w.heap.size
  years : ∃ Y : Nat → Value, w.rowIs B 25 n Y ∧ ∀ j, j < i → ∃ p, Y j = .pointer (some ⟨p, 0, none⟩) ∧ RatIs (B + 2) w p (f j)
  ends : ∃ E : Nat → Value, w.rowIs (B + 1) 25 n E ∧ ∀ j, j < i → ∃ p, E j = .pointer (some ⟨p, 0, none⟩) ∧ RatIs (B + 2) w p (psum f (j + 1))

theorem Tab.start (f : Nat → Int) (n : Nat) (w : World) : Tab w.heap.size f n 0 ((w.alloc (.cells (madeCells #[.pointer none] n) 25)).alloc (.cells (madeCells #[.pointer none] n) 25)) := by
  refine ⟨by simp, ⟨_, (World.rowIs_made w _ n 25).alloc _, fun j hj => by omega⟩, ?_⟩
  have := World.rowIs_made (w.alloc (.cells (madeCells #[.pointer none] n) 25)) (.pointer none) n 25
  rw [nblk_alloc] at this
  exact ⟨_, this, fun j hj => by omega⟩

/-- The table lies below what is made later: it stays. -/
theorem Tab.below {B : Nat} {f : Nat → Int} {n i : Nat} {w w' : World} (h : Tab B f n i w) (k : Below w.heap.size w w') : Tab B f n i w' := by
  obtain ⟨hs, ⟨Y, hY, hYr⟩, ⟨E, hE, hEr⟩⟩ := h
  refine ⟨Nat.le_trans hs k.size, ⟨Y, hY.of_block (k.block _ (by omega)), fun j hj => ?_⟩, ⟨E, hE.of_block (k.block _ (by omega)), fun j hj => ?_⟩⟩
  · obtain ⟨p, hp, hr⟩ := hYr j hj
    exact ⟨p, hp, hr.keeps (.below k)⟩
  · obtain ⟨p, hp, hr⟩ := hEr j hj
    exact ⟨p, hp, hr.keeps (.below k)⟩

/-- One column more. -/
theorem Tab.step {B : Nat} {f : Nat → Int} {n i : Nat} {wr w1 w3 : World} {N M : Nat} (h : Tab B f n i wr) (k1 : Below wr.heap.size wr w1) (r1 : RatIs (B + 2) w1 N (f i))
    (k3 : Below (w1.setCell ⟨B, i, none⟩ (.pointer (some ⟨N, 0, none⟩))).heap.size (w1.setCell ⟨B, i, none⟩ (.pointer (some ⟨N, 0, none⟩))) w3) (r3 : RatIs (B + 2) w3 M (psum f (i + 1))) :
    Tab B f n (i + 1) (w3.setCell ⟨B + 1, i, none⟩ (.pointer (some ⟨M, 0, none⟩))) := by
  have h1 := h.below k1
  obtain ⟨hs, ⟨Y, hY, hYr⟩, ⟨E, hE, hEr⟩⟩ := h1
  have s2 : (w1.setCell ⟨B, i, none⟩ (.pointer (some ⟨N, 0, none⟩))).heap.size = w1.heap.size := nblk_setCell _ _ _
  have kk : Keeps (B + 2) w1 (w3.setCell ⟨B + 1, i, none⟩ (.pointer (some ⟨M, 0, none⟩))) := by
    refine ((Keeps.set (by show B < B + 2; omega) _).trans (by rw [s2]; exact Nat.le_refl _) (.below k3)).trans ?_ (Keeps.set (by show B + 1 < B + 2; omega) _)
    rw [← s2]; exact k3.size
  refine ⟨?_, ⟨fun j => if j = i then .pointer (some ⟨N, 0, none⟩) else Y j, ?_, fun j hj => ?_⟩, ⟨fun j => if j = i then .pointer (some ⟨M, 0, none⟩) else E j, ?_, fun j hj => ?_⟩⟩
  · rw [nblk_setCell]
    have := k3.size
    omega
  · exact ((hY.set i _).of_block (k3.block _ (by omega))).setOther (by show B ≠ B + 1; omega) _
  · by_cases e : j = i
    · subst e
      exact ⟨N, by simp, r1.keeps kk⟩
    · obtain ⟨p, hp, hr⟩ := hYr j (by omega)
      exact ⟨p, by simp [e, hp], hr.keeps kk⟩
  · have hE3 : w3.rowIs (B + 1) 25 n E := (hE.setOther (a := ⟨B, i, none⟩) (by show B + 1 ≠ B; omega) _).of_block (k3.block _ (by omega))
    exact hE3.set i _
  · by_cases e : j = i
    · subst e
      exact ⟨M, by simp, r3.keeps (Keeps.set (by show B + 1 < B + 2; omega) _)⟩
    · obtain ⟨p, hp, hr⟩ := hEr j (by omega)
      exact ⟨p, by simp [e, hp], hr.keeps kk⟩
end Go.Proofs.Qxb6605753a
