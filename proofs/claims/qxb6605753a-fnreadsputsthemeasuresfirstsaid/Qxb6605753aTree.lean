/-
  THE TREES OF CONDITIONS IN MEMORY. No walk here.
-/
import Derived.Test.Qxb6605753aOwn
import Derived.Test.Qxb6605753aTab
namespace Go.Proofs.Qxb6605753a
open Go.RowKit

def cat (S : Nat → List ByteArray) : Nat → List ByteArray
  | 0 => []
  | k + 1 => cat S k ++ S k
def tot (M : Nat → Nat) : Nat → Nat
  | 0 => 0
  | k + 1 => tot M k + M k
theorem tot_mem (M : Nat → Nat) (n i : Nat) (h : i < n) : M i ≤ tot M n := by
  induction n with
  | zero => omega
  | succ n ih =>
    simp only [tot]
    by_cases e : i = n
    · subst e; omega
    · have := ih (by omega); omega
theorem cat_len (S : Nat → List ByteArray) (M : Nat → Nat) (n : Nat) (h : ∀ i, i < n → (S i).length = 2 * M i) : (cat S n).length = 2 * tot M n := by
  induction n with
  | zero => rfl
  | succ n ih =>
    have h1 := ih fun i hi => h i (by omega)
    have h2 := h n (by omega)
    simp only [cat, tot, List.length_append]
    omega

/-- A ZCond, its four cells given, of at most d levels: seq: the names in preorder; N: how many nodes. Its lists lie in blocks of R. -/
def ZT (w : World) (R : Nat → Prop) : Nat → Value → Value → Value → Value → List ByteArray → Nat → Prop
  | 0, _, _, _, _, _, _ => False
  | d + 1, v0, v1, v2, v3, seq, N =>
    ∃ (m a : ByteArray) (x : Bool) (ao : Option Addr) (len cap : Nat) (S : Nat → List ByteArray) (M : Nat → Nat),
      v0 = .string m ∧ v1 = .string a ∧ v2 = .bool x ∧ v3 = .slice ao len cap ∧ seq = m :: a :: cat S len ∧ N = 1 + tot M len ∧
      (len = 0 ∨ ∃ b off, ao = some ⟨b, off, none⟩ ∧ R b ∧ ∀ i, i < len → ∃ u0 u1 u2 u3,
        (w.cell? ⟨b, off + i * 4, none⟩ = some u0 ∧ w.cell? ⟨b, off + i * 4 + 1, none⟩ = some u1 ∧ w.cell? ⟨b, off + i * 4 + 2, none⟩ = some u2 ∧ w.cell? ⟨b, off + i * 4 + 3, none⟩ = some u3) ∧
        ZT w R d u0 u1 u2 u3 (S i) (M i))

/-- A condition of the book's own, its five cells given. -/
def CT (w : World) (R : Nat → Prop) : Nat → Value → Value → Value → Value → Value → List ByteArray → Prop
  | 0, _, _, _, _, _, _ => False
  | d + 1, v0, v1, v2, v3, v4, seq =>
    ∃ (m a : ByteArray) (x : Bool) (ao : Option Addr) (len cap : Nat) (S : Nat → List ByteArray),
      v0 = .string m ∧ v1 = .pointer none ∧ v2 = .string a ∧ v3 = .bool x ∧ v4 = .slice ao len cap ∧ seq = m :: a :: cat S len ∧
      (len = 0 ∨ ∃ b off, ao = some ⟨b, off, none⟩ ∧ R b ∧ ∀ i, i < len → ∃ u0 u1 u2 u3 u4,
        (w.cell? ⟨b, off + i * 5, none⟩ = some u0 ∧ w.cell? ⟨b, off + i * 5 + 1, none⟩ = some u1 ∧ w.cell? ⟨b, off + i * 5 + 2, none⟩ = some u2 ∧ w.cell? ⟨b, off + i * 5 + 3, none⟩ = some u3 ∧ w.cell? ⟨b, off + i * 5 + 4, none⟩ = some u4) ∧
        CT w R d u0 u1 u2 u3 u4 (S i))

/-- What lies in blocks of R reads as it did. -/
def Kept (R : Nat → Prop) (w w' : World) : Prop := ∀ b o x, R b → w.cell? ⟨b, o, none⟩ = some x → w'.cell? ⟨b, o, none⟩ = some x

theorem Kept.below {R : Nat → Prop} {B : Nat} {w w' : World} (h : Below B w w') (hR : ∀ b, R b → b < B) : Kept R w w' := fun b o _ hb hx => (h.cell (p := ⟨b, o, none⟩) (hR b hb)).trans hx

theorem ZT.kept {w w' : World} {R : Nat → Prop} (k : Kept R w w') : ∀ {d : Nat} {v0 v1 v2 v3 : Value} {seq : List ByteArray} {N : Nat}, ZT w R d v0 v1 v2 v3 seq N → ZT w' R d v0 v1 v2 v3 seq N := by
  intro d
  induction d with
  | zero => intro _ _ _ _ _ _ h; exact h.elim
  | succ d ih =>
    rintro v0 v1 v2 v3 seq N ⟨m, a, x, ao, len, cap, S, M, e0, e1, e2, e3, es, eN, hc⟩
    refine ⟨m, a, x, ao, len, cap, S, M, e0, e1, e2, e3, es, eN, ?_⟩
    rcases hc with hc | ⟨b, off, hao, hb, hc⟩
    · exact .inl hc
    · refine .inr ⟨b, off, hao, hb, fun i hi => ?_⟩
      obtain ⟨u0, u1, u2, u3, ⟨c0, c1, c2, c3⟩, ht⟩ := hc i hi
      exact ⟨u0, u1, u2, u3, ⟨k _ _ _ hb c0, k _ _ _ hb c1, k _ _ _ hb c2, k _ _ _ hb c3⟩, ih ht⟩

theorem CT.kept {w w' : World} {R : Nat → Prop} (k : Kept R w w') : ∀ {d : Nat} {v0 v1 v2 v3 v4 : Value} {seq : List ByteArray}, CT w R d v0 v1 v2 v3 v4 seq → CT w' R d v0 v1 v2 v3 v4 seq := by
  intro d
  induction d with
  | zero => intro _ _ _ _ _ _ h; exact h.elim
  | succ d ih =>
    rintro v0 v1 v2 v3 v4 seq ⟨m, a, x, ao, len, cap, S, e0, e1, e2, e3, e4, es, hc⟩
    refine ⟨m, a, x, ao, len, cap, S, e0, e1, e2, e3, e4, es, ?_⟩
    rcases hc with hc | ⟨b, off, hao, hb, hc⟩
    · exact .inl hc
    · refine .inr ⟨b, off, hao, hb, fun i hi => ?_⟩
      obtain ⟨u0, u1, u2, u3, u4, ⟨c0, c1, c2, c3, c4⟩, ht⟩ := hc i hi
      exact ⟨u0, u1, u2, u3, u4, ⟨k _ _ _ hb c0, k _ _ _ hb c1, k _ _ _ hb c2, k _ _ _ hb c3, k _ _ _ hb c4⟩, ih ht⟩

theorem CT.wide {w : World} {R R' : Nat → Prop} (k : ∀ b, R b → R' b) : ∀ {d : Nat} {v0 v1 v2 v3 v4 : Value} {seq : List ByteArray}, CT w R d v0 v1 v2 v3 v4 seq → CT w R' d v0 v1 v2 v3 v4 seq := by
  intro d
  induction d with
  | zero => intro _ _ _ _ _ _ h; exact h.elim
  | succ d ih =>
    rintro v0 v1 v2 v3 v4 seq ⟨m, a, x, ao, len, cap, S, e0, e1, e2, e3, e4, es, hc⟩
    refine ⟨m, a, x, ao, len, cap, S, e0, e1, e2, e3, e4, es, ?_⟩
    rcases hc with hc | ⟨b, off, hao, hb, hc⟩
    · exact .inl hc
    · refine .inr ⟨b, off, hao, k b hb, fun i hi => ?_⟩
      obtain ⟨u0, u1, u2, u3, u4, hcs, ht⟩ := hc i hi
      exact ⟨u0, u1, u2, u3, u4, hcs, ih ht⟩

/-- More levels do no harm. -/
theorem ZT.more {w : World} {R : Nat → Prop} : ∀ {d d' : Nat} {v0 v1 v2 v3 : Value} {seq : List ByteArray} {N : Nat}, d ≤ d' → ZT w R d v0 v1 v2 v3 seq N → ZT w R d' v0 v1 v2 v3 seq N := by
  intro d
  induction d with
  | zero => intro _ _ _ _ _ _ _ _ h; exact h.elim
  | succ d ih =>
    intro d' v0 v1 v2 v3 seq N hd h
    cases d' with
    | zero => omega
    | succ d' =>
      obtain ⟨m, a, x, ao, len, cap, S, M, e0, e1, e2, e3, es, eN, hc⟩ := h
      refine ⟨m, a, x, ao, len, cap, S, M, e0, e1, e2, e3, es, eN, ?_⟩
      rcases hc with hc | ⟨b, off, hao, hb, hc⟩
      · exact .inl hc
      · refine .inr ⟨b, off, hao, hb, fun i hi => ?_⟩
        obtain ⟨u0, u1, u2, u3, hcs, ht⟩ := hc i hi
        exact ⟨u0, u1, u2, u3, hcs, ih (by omega) ht⟩

/-- A tree has no more levels than nodes. -/
theorem ZT.levels {w : World} {R : Nat → Prop} : ∀ {d : Nat} {v0 v1 v2 v3 : Value} {seq : List ByteArray} {N : Nat}, ZT w R d v0 v1 v2 v3 seq N → ZT w R N v0 v1 v2 v3 seq N := by
  intro d
  induction d with
  | zero => intro _ _ _ _ _ _ h; exact h.elim
  | succ d ih =>
    rintro v0 v1 v2 v3 seq N ⟨m, a, x, ao, len, cap, S, M, e0, e1, e2, e3, es, eN, hc⟩
    subst eN
    rw [Nat.add_comm]
    refine ⟨m, a, x, ao, len, cap, S, M, e0, e1, e2, e3, es, by omega, ?_⟩
    rcases hc with hc | ⟨b, off, hao, hb, hc⟩
    · exact .inl hc
    · refine .inr ⟨b, off, hao, hb, fun i hi => ?_⟩
      obtain ⟨u0, u1, u2, u3, hcs, ht⟩ := hc i hi
      exact ⟨u0, u1, u2, u3, hcs, (ih ht).more (tot_mem M len i hi)⟩

/-- Two names a node. -/
theorem ZT.names {w : World} {R : Nat → Prop} : ∀ {d : Nat} {v0 v1 v2 v3 : Value} {seq : List ByteArray} {N : Nat}, ZT w R d v0 v1 v2 v3 seq N → seq.length = 2 * N := by
  intro d
  induction d with
  | zero => intro _ _ _ _ _ _ h; exact h.elim
  | succ d ih =>
    rintro v0 v1 v2 v3 seq N ⟨m, a, x, ao, len, cap, S, M, e0, e1, e2, e3, es, eN, hc⟩
    subst eN; subst es
    rcases hc with rfl | ⟨b, off, hao, hb, hc⟩
    · rfl
    · have := cat_len S M len fun i hi => by
        obtain ⟨u0, u1, u2, u3, hcs, ht⟩ := hc i hi
        exact ih ht
      simp only [List.length_cons, this]
      omega
end Go.Proofs.Qxb6605753a
