import Derived.Test.Qxb6605753aTab
import Derived.Deep.QuietTactic
import Derived.BigQuiet
namespace Go.Proofs.Qxb6605753a
open Go.RowKit Go.Deep

set_option maxHeartbeats 400000 in
theorem through_in (s B n k p : Nat) (w : World) (hn : n ≤ 65536) (hk : k < n)
    (c1 : w.cell? ⟨s, 1, none⟩ = some (.slice (some ⟨B, 0, none⟩) n n)) (cp : w.cell? ⟨B, k, none⟩ = some (.pointer (some ⟨p, 0, none⟩))) :
    Calls Try.prog 10 #[.pointer (some ⟨s, 0, none⟩), .int .i64 k] w fun e w' => e = .returned (.pointer (some ⟨p, 0, none⟩)) ∧ ∃ nq, w' = w.drewN nq := by
  have h1 : (k : Int) ≤ (n : Int) - 1 := by omega
  have h2 : (k : Int) < (n : Int) := by omega
  go_enter Try.func10, Try.ntmps10
  go_wp2
  go_quiet (fail)
  go_wp2
  go_ret
  exact ⟨rfl, _, rfl⟩

set_option maxHeartbeats 400000 in
theorem through_past (s B n k p : Nat) (y : Int) (w : World) (hn : n ≤ 65536) (hk : k + 1 = n) (hy : (n : Int) ≤ y)
    (c1 : w.cell? ⟨s, 1, none⟩ = some (.slice (some ⟨B, 0, none⟩) n n)) (cp : w.cell? ⟨B, k, none⟩ = some (.pointer (some ⟨p, 0, none⟩))) :
    Calls Try.prog 10 #[.pointer (some ⟨s, 0, none⟩), .int .i64 y] w fun e w' => e = .returned (.pointer (some ⟨p, 0, none⟩)) ∧ ∃ nq, w' = w.drewN nq := by
  subst hk
  have h1 : ¬ y ≤ (k : Int) := by omega
  have h3 : ¬ y ≤ (k : Int) + 1 - 1 := by omega
  have h4 : ¬ y < (k : Int) := by omega
  go_enter Try.func10, Try.ntmps10
  go_wp2
  go_quiet (fail)
  go_wp2
  go_ret
  exact ⟨rfl, _, rfl⟩

set_option maxHeartbeats 400000 in
theorem year_in (s B n k p : Nat) (w : World) (hk : k < n)
    (c1 : w.cell? ⟨s, 0, none⟩ = some (.slice (some ⟨B, 0, none⟩) n n)) (cp : w.cell? ⟨B, k, none⟩ = some (.pointer (some ⟨p, 0, none⟩))) :
    Calls Try.prog 11 #[.pointer (some ⟨s, 0, none⟩), .int .i64 k] w fun e w' => e = .returned (.pointer (some ⟨p, 0, none⟩)) ∧ w' = w := by
  have h2 : (k : Int) < (n : Int) := by omega
  go_enter Try.func11, Try.ntmps11
  go_wp2
  go_ret
  exact ⟨rfl, rfl⟩

set_option maxHeartbeats 400000 in
theorem year_past (s B n : Nat) (y : Int) (w : World) (hy : (n : Int) ≤ y)
    (c1 : w.cell? ⟨s, 0, none⟩ = some (.slice (some ⟨B, 0, none⟩) n n)) :
    Calls Try.prog 11 #[.pointer (some ⟨s, 0, none⟩), .int .i64 y] w fun e w' => e = .returned (.pointer (some ⟨w.heap.size, 0, none⟩)) ∧ w' = w.alloc ratZ := by
  unfold ratZ
  go_enter Try.func11, Try.ntmps11
  go_wp2
  go_ret
  exact ⟨rfl, rfl⟩

theorem newShare (v0 v1 : Value) (a0 a1 : Option Addr) (n0 c0 n1 c1 : Nat) (h0 : v0 = .slice a0 n0 c0) (h1 : v1 = .slice a1 n1 c1) (w : World) :
    Calls Try.prog 8 #[v0, v1] w fun e w' => e = .returned (.pointer (some ⟨w.heap.size, 0, none⟩)) ∧ w' = w.alloc (.cells #[v0, v1] 61) := by
  subst h0; subst h1
  go_enter Try.func8, Try.ntmps8
  go_wp2
  go_ret
  exact ⟨rfl, rfl⟩

/-- The share cost at block s, over the table. -/
structure Share (B : Nat) (f : Nat → Int) (n s : Nat) (w : World) : Prop where
  tab : Tab B f n n w
  c0 : w.cell? ⟨s, 0, none⟩ = some (.slice (some ⟨B, 0, none⟩) n n)
  c1 : w.cell? ⟨s, 1, none⟩ = some (.slice (some ⟨B + 1, 0, none⟩) n n)

theorem Share.below {B : Nat} {f : Nat → Int} {n s : Nat} {w w' : World} (h : Share B f n s w) (k : Below w.heap.size w w') : Share B f n s w' :=
  ⟨h.tab.below k, (k.cell (p := ⟨s, 0, none⟩) (cell_lt h.c0)).trans h.c0, (k.cell (p := ⟨s, 1, none⟩) (cell_lt h.c1)).trans h.c1⟩

theorem share_new {B : Nat} {f : Nat → Int} {n : Nat} {w : World} (h : Tab B f n n w) : Share B f n w.heap.size (w.alloc (.cells #[.slice (some ⟨B, 0, none⟩) n n, .slice (some ⟨B + 1, 0, none⟩) n n] 61)) :=
  ⟨h.below ((Below.refl _ _).alloc (Nat.le_refl _) _), by simp [go_sem], by simp [go_sem]⟩

theorem below_drewN' (w : World) (n : Nat) : Below w.heap.size w (w.drewN n) := ⟨rfl, rfl, rfl, Nat.le_refl _, fun _ _ => rfl⟩

theorem newShare_any {B : Nat} {f : Nat → Int} {n : Nat} (w : World) (h : Tab B f n n w) :
    Calls Try.prog 8 #[.slice (some ⟨B, 0, none⟩) n n, .slice (some ⟨B + 1, 0, none⟩) n n] w fun e w' => e = .returned (.pointer (some ⟨w.heap.size, 0, none⟩)) ∧ Share B f n w.heap.size w' ∧ Below w.heap.size w w' := by
  refine (newShare _ _ _ _ _ _ _ _ rfl rfl w).mono ?_
  rintro e w1 ⟨rfl, rfl⟩
  exact ⟨rfl, share_new h, (Below.refl _ _).alloc (Nat.le_refl _) _⟩

/-- 'through' on it. -/
theorem through_any {B : Nat} {f : Nat → Int} {n s : Nat} (m : Nat) (w : World) (h : Share B f n s w) (hn1 : 1 ≤ n) (hn : n ≤ 65536) :
    Calls Try.prog 10 #[.pointer (some ⟨s, 0, none⟩), .int .i64 m] w fun e w' => (∃ p, e = .returned (.pointer (some ⟨p, 0, none⟩)) ∧ RatIs (B + 2) w' p (psum f (min n (m + 1)))) ∧ Share B f n s w' ∧ Below w.heap.size w w' := by
  obtain ⟨E, hE, hEr⟩ := h.tab.ends
  by_cases hm : m < n
  · obtain ⟨p, hp, hr⟩ := hEr m hm
    have e1 : min n (m + 1) = m + 1 := by omega
    refine (through_in s (B + 1) n m p w hn hm h.c1 ((hE.cell hm).trans (by rw [hp]))).mono ?_
    rintro e w' ⟨rfl, nq, rfl⟩
    exact ⟨⟨p, rfl, by rw [e1]; exact hr⟩, h.below (below_drewN' _ _), below_drewN' _ _⟩
  · obtain ⟨p, hp, hr⟩ := hEr (n - 1) (by omega)
    have e1 : min n (m + 1) = n - 1 + 1 := by omega
    refine (through_past s (B + 1) n (n - 1) p m w hn (by omega) (by omega) h.c1 ((hE.cell (by omega)).trans (by rw [hp]))).mono ?_
    rintro e w' ⟨rfl, nq, rfl⟩
    exact ⟨⟨p, rfl, by rw [e1]; exact hr⟩, h.below (below_drewN' _ _), below_drewN' _ _⟩

/-- 'year' on it. -/
theorem year_any {B : Nat} {f : Nat → Int} {n s : Nat} (m : Nat) (w : World) (h : Share B f n s w) (hm : m < n) :
    Calls Try.prog 11 #[.pointer (some ⟨s, 0, none⟩), .int .i64 m] w fun e w' => (∃ p, e = .returned (.pointer (some ⟨p, 0, none⟩)) ∧ RatIs (B + 2) w' p (f m)) ∧ w' = w := by
  obtain ⟨Y, hY, hYr⟩ := h.tab.years
  obtain ⟨p, hp, hr⟩ := hYr m hm
  refine (year_in s B n m p w hm h.c0 ((hY.cell hm).trans (by rw [hp]))).mono ?_
  rintro e w' ⟨rfl, rfl⟩
  exact ⟨⟨p, rfl, hr⟩, rfl⟩

/-- 'ratInt' of a Rat that nobody has set, the world spelt as the walk spells it. -/
theorem ratInt_lit (w : World) :
    Calls Try.prog 9 #[.pointer (some ⟨w.heap.size, 0, none⟩)] (w.alloc (.cells #[.bool false, .slice none 0 0, .bool false, .slice none 0 0] 31)) fun e w' => e = .returned (.tuple #[.int .i64 0, .bool true]) ∧ Below w.heap.size w w' := ratInt_new w
end Go.Proofs.Qxb6605753a
