/-
  ZZshapeIntern, ZZshapeStates, ZZshapeTable, cloneKeys.
-/
import Derived.Test.Qxb6605601aMach
import Derived.Test.Qxb6605601aNew
namespace Go.Proofs.Qxb6605601a
open Go.RowKit Go.Maps Go.Deep

def ins (ks : List (Int × Int)) (k : Int × Int) : List (Int × Int) := if k ∈ ks then ks else ks ++ [k]

theorem Mach.kept {base g n : Nat} {ks : List (Int × Int)} {own o : Nat → Prop} {w w' : World} (h : Mach base w g n ks own) (t : Turn o w w') (ho : ∀ b, own b → b < w.heap.size → ¬ o b) : Mach base w' g n ks own := by
  obtain ⟨⟨f, vS, vT, mb, D, hr, e2, e3, e4, e5, hS, hT, hM, hI, h1, h2, h3, h4⟩, hwf, hlow, hsz⟩ := h
  have hltr : ∀ {e : TypeId} {m k : Nat} {v : Value} {xs : List Value}, w.ownsRow base e m v k xs → (∀ b, v.ownBlock = some b → own b) → ∀ b, v.ownBlock = some b → ¬ o b := fun hr ho' b hb => ho b (ho' b hb) (hr.lt b hb).2
  exact ⟨⟨f, vS, vT, mb, D, hr.of_block (t.block g hr.lt (ho g h1 hr.lt)), e2, e3, e4, e5, t.row hS (hltr hS h3), t.row hT (hltr hT h4), t.map hM (ho mb h2 hM.lt), hI, h1, h2, h3, h4⟩, hwf, fun b hb => ⟨(hlow b hb).1, Nat.lt_of_lt_of_le (hlow b hb).2 t.size⟩, Nat.le_trans hsz t.size⟩

theorem intern_any (base g n : Nat) (ks : List (Int × Int)) (own : Nat → Prop) (a b : Int) (w : World) (h : Mach base w g n ks own) (hk : Wf (a, b)) (hn : n ≤ 255) (hlen : ks.length ≤ 8192) :
    Calls Try.prog 25 #[.pointer (some ⟨g, 0, none⟩), .int .i32 a, .int .i32 b] w fun e w' => e = .returned (.int .i32 (2 + ((ins ks (a, b)).idxOf (a, b) : Int))) ∧ ∃ own', Mach base w' g n (ins ks (a, b)) own' ∧ Turn own w w' ∧ ∀ x, own' x → own x ∨ w.heap.size ≤ x := by
  by_cases hm : (a, b) ∈ ks
  · have e : ins ks (a, b) = ks := if_pos hm
    rw [e]
    refine (intern_hit base g n ks own a b w h hk hm).mono ?_
    rintro e w' ⟨rfl, hb⟩
    exact ⟨rfl, own, h.kept (Turn.of_below (own := fun _ => False) hb) (fun _ _ _ h => h), Turn.of_below hb, fun x h => .inl h⟩
  · have e : ins ks (a, b) = ks ++ [(a, b)] := if_neg hm
    have e2 : (ks ++ [(a, b)]).idxOf (a, b) = ks.length := by rw [List.idxOf_append, if_neg hm]; simp
    rw [e, e2]
    exact intern_miss base g n ks own a b w h hk hm hn hlen

theorem zzintern_any (base g n : Nat) (ks : List (Int × Int)) (own : Nat → Prop) (a b : Int) (w : World) (h : Mach base w g n ks own) (hk : Wf (a, b)) (hn : n ≤ 255) (hlen : ks.length ≤ 8192) :
    Calls Try.prog 20 #[.pointer (some ⟨g, 0, none⟩), .int .i32 a, .int .i32 b] w fun e w' => e = .returned (.int .i32 (2 + ((ins ks (a, b)).idxOf (a, b) : Int))) ∧ ∃ own', Mach base w' g n (ins ks (a, b)) own' ∧ Turn own w w' ∧ ∀ x, own' x → own x ∨ w.heap.size ≤ x := by
  have A := intern_any base g n ks own a b w h hk hn hlen
  go_enter Try.func20, Try.ntmps20
  go_wp2_with fail
  refine A.mono ?_
  rintro e w' ⟨rfl, hx⟩
  go_wp2_with fail
  go_ret
  exact ⟨rfl, hx⟩

theorem states_any (base g n : Nat) (ks : List (Int × Int)) (own : Nat → Prop) (w : World) (h : Mach base w g n ks own) :
    Calls Try.prog 21 #[.pointer (some ⟨g, 0, none⟩)] w fun e w' => w' = w ∧ ∃ a l c, e = .returned (.slice a l c) ∧ w.ownsRow base 42 2 (.slice a l c) ks.length (cellsK ks) ∧ ∀ b, (Value.slice a l c).ownBlock = some b → own b := by
  obtain ⟨⟨f, vS, vT, mb, D, hr, e2, e3, e4, e5, hS, hT, hM, hI, h1, h2, h3, h4⟩, hwf, hlow, hsz⟩ := h
  obtain ⟨a, l, c, rfl⟩ := sl_form hS
  have c2 := hr.cell (i := 2) (by omega)
  rw [e2] at c2
  have HS : Hid (w.ownsRow base 42 2 (.slice a l c) ks.length (cellsK ks)) := hS
  clear hS hT hM hI
  go_enter Try.func21, Try.ntmps21
  go_wp2_with fail
  go_ret
  exact ⟨rfl, a, l, c, rfl, HS.out, h3⟩

theorem table_any (base g n : Nat) (ks : List (Int × Int)) (own : Nat → Prop) (w : World) (h : Mach base w g n ks own) :
    Calls Try.prog 22 #[.pointer (some ⟨g, 0, none⟩)] w fun e w' => w' = w ∧ ∃ a l c, e = .returned (.slice a l c) ∧ w.ownsRow base 21 1 (.slice a l c) (n * ks.length) (List.replicate (n * ks.length) M3) := by
  obtain ⟨⟨f, vS, vT, mb, D, hr, e2, e3, e4, e5, hS, hT, hM, hI, h1, h2, h3, h4⟩, hwf, hlow, hsz⟩ := h
  obtain ⟨a, l, c, rfl⟩ := sl_form hT
  have c2 := hr.cell (i := 262) (by omega)
  rw [e5] at c2
  have HT : Hid (w.ownsRow base 21 1 (.slice a l c) (n * ks.length) (List.replicate (n * ks.length) M3)) := hT
  clear hS hT hM hI
  go_enter Try.func22, Try.ntmps22
  go_wp2_with fail
  go_ret
  exact ⟨rfl, a, l, c, rfl, HT.out⟩

theorem mach_new (n : Nat) (w : World) : Calls Try.prog 19 #[.int .i64 n] w fun e w' => e = .returned (.pointer (some ⟨w.heap.size + 1, 0, none⟩)) ∧ Mach w.heap.size w' (w.heap.size + 1) n [] (fun x => x = w.heap.size ∨ x = w.heap.size + 1) ∧ Below w.heap.size w w' ∧ w'.heap.size = w.heap.size + 2 := by
  refine (new_any n w).mono ?_
  rintro e w' ⟨rfl, C, rfl, hs, c2, c3, c4, c5⟩
  have hB : Below w.heap.size w ((w.alloc (.map #[] 0)).alloc (.cells C 69)) := ((Below.refl _ _).alloc (Nat.le_refl _) _).alloc (by simp) _
  refine ⟨rfl, ⟨⟨fun i => C.getD i undef, .slice none 0 0, .slice none 0 0, w.heap.size, .map [], ?_, ?_, ?_, ?_, ?_, World.ownsRow_nil _ _ _ _, ?_, ?_, mapIs_nil, .inr rfl, .inl rfl, ?_, ?_⟩, ?_, fun b h => by simp; omega, hB.size⟩, hB, by simp⟩
  · refine ⟨C, ?_, hs, fun i hi => ?_⟩
    · have := blk_alloc_new (w.alloc (.map #[] 0)) (.cells C 69)
      simpa using this
    · simp [Array.getD, hs, hi]
  · simp [Array.getD_eq_getD_getElem?, c2]
  · simp [Array.getD_eq_getD_getElem?, c3]
  · simp [Array.getD_eq_getD_getElem?, c4]
  · simp [Array.getD_eq_getD_getElem?, c5]
  · exact World.ownsRow_nil _ _ _ _
  · exact (World.ownsMap_made w Try.prog 42 (plainElem Try.prog 21)).alloc _
  · intro b hb; cases hb
  · intro b hb; cases hb
  · intro k hk; simp at hk
end Go.Proofs.Qxb6605601a
