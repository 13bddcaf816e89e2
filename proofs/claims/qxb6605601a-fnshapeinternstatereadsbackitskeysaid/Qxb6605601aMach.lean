/-
  THE MACHINE: its block, its states, its table, its map; intern.
-/
import Derived.Test.Qxb6605601aAdd
import Derived.Deep.RegionHeld3
import Derived.Deep.RegionLaw
import Derived.Deep.DeepCutAuto
import Derived.Deep.AppendLies
import Derived.Deep.QuietTactic
import Derived.BigQuiet
namespace Go.Proofs.Qxb6605601a
open Go.RowKit Go.Maps Go.Deep

def cellsK (ks : List (Int × Int)) : List Value := ks.flatMap fun k => [.int .i32 k.1, .int .i32 k.2]
theorem cellsK_snoc (ks : List (Int × Int)) (k : Int × Int) : cellsK (ks ++ [k]) = cellsK ks ++ [.int .i32 k.1, .int .i32 k.2] := by simp [cellsK]
theorem cellsK_len (ks : List (Int × Int)) : (cellsK ks).length = ks.length * 2 := by
  induction ks with
  | nil => rfl
  | cons k ks ih => simp only [cellsK, List.flatMap_cons, List.length_append, List.length_cons, List.length_nil] at ih ⊢; omega

/-- The map holds each key's number. -/
def MapIs (D : DataW Unit) (ks : List (Int × Int)) : Prop :=
  ∀ k, Wf k → Maps.has D (kl k) = decide (k ∈ ks) ∧ (k ∈ ks → D.atKey (kl k) (.lit (.int .i32 0)) = .lit (.int .i32 (2 + (ks.idxOf k : Int))))

theorem mapIs_nil : MapIs (.map []) [] := fun k _ => ⟨by simp [Maps.has], fun h => by simp at h⟩

theorem kl_key (k : Int × Int) (h : Wf k) : WideAt.IsKeyLit (kl k) := law.key (key_ok k h)

theorem MapIs.put {D : DataW Unit} {ks : List (Int × Int)} (h : MapIs D ks) (hD : IsMap D) {k : Int × Int} (hk : Wf k) (hn : k ∉ ks) : MapIs (D.put (kl k) (.lit (.int .i32 (2 + (ks.length : Int))))) (ks ++ [k]) := by
  intro l hl
  by_cases e : l = k
  · subst e
    refine ⟨?_, fun _ => ?_⟩
    · rw [has_put_same hD (kl_key l hk)]; simp
    · rw [atKey_put_same hD (kl_key l hk), List.idxOf_append, if_neg hn]
      simp
  · have hne : kl l ≠ kl k := fun h => e (kl_inj hl hk h)
    refine ⟨?_, fun hm => ?_⟩
    · rw [has_put_other hne, (h l hl).1]; simp [e]
    · rw [atKey_put_other hne, (h l hl).2 (by simpa [e] using hm), List.idxOf_append, if_pos (by simpa [e] using hm)]

structure Mach (base : Nat) (w : World) (g n : Nat) (ks : List (Int × Int)) (own : Nat → Prop) : Prop where
  parts : ∃ f vS vT mb D, w.rowIs g 69 263 f ∧ f 2 = vS ∧ f 3 = .map (some mb) ∧ f 261 = .int .i64 n ∧ f 262 = vT ∧
    w.ownsRow base 42 2 vS ks.length (cellsK ks) ∧ w.ownsRow base 21 1 vT (n * ks.length) (List.replicate (n * ks.length) M3) ∧
    w.ownsMap Try.prog 42 (plainElem Try.prog 21) mb ks.length D ∧ MapIs D ks ∧
    (own g ∧ own mb ∧ (∀ b, vS.ownBlock = some b → own b) ∧ ∀ b, vT.ownBlock = some b → own b)
  wf : ∀ k ∈ ks, Wf k
  low : ∀ b, own b → base ≤ b ∧ b < w.heap.size
  size : base ≤ w.heap.size

theorem zero21 (w : World) : (zeroValue 21).run Try.prog w = .ok (.int .i32 0) w := by kernel_rfl

set_option maxRecDepth 100000 in
theorem look_run {W : World} {mb n : Nat} {D : DataW Unit} (h : W.ownsMap Try.prog 42 (plainElem Try.prog 21) mb n D) (k : Int × Int) (hk : Wf k) :
    ∃ c : Int, D.atKey (kl k) (.lit (.int .i32 0)) = .lit (.int .i32 c) ∧ ∀ W' : World, W'.ownsMap Try.prog 42 (plainElem Try.prog 21) mb n D → (Instr.lookup 59 (.map (some mb)) (K2 k) true).run Try.prog W' = .ok (.tuple #[.int .i32 c, .bool (Maps.has D (kl k))]) W' := by
  obtain ⟨v, ps, hr, hv⟩ := h.look_ok law Try.underlying59 (zero21 W) (plainElem_int Try.underlying21 (by decide)) (key_ok k hk)
  obtain ⟨c, rfl, hc, _⟩ := plainElem_int_inv Try.underlying21 hv
  refine ⟨c, congrArg Prod.fst hc, fun W' h' => ?_⟩
  obtain ⟨v', ps', hr', hv'⟩ := h'.look_ok law Try.underlying59 (zero21 W') (plainElem_int Try.underlying21 (by decide)) (key_ok k hk)
  obtain ⟨c', rfl, hc', _⟩ := plainElem_int_inv Try.underlying21 hv'
  have e : c' = c := by
    have h1 := congrArg Prod.fst hc
    have h2 := congrArg Prod.fst hc'
    rw [h1] at h2
    injection h2 with h2
    injection h2 with _ h2
    exact h2.symm
  rw [hr', e]

set_option maxRecDepth 100000 in
set_option maxHeartbeats 400000 in
theorem intern_hit (base g n : Nat) (ks : List (Int × Int)) (own : Nat → Prop) (a b : Int) (w : World) (h : Mach base w g n ks own) (hk : Wf (a, b)) (hm : (a, b) ∈ ks) :
    Calls Try.prog 25 #[.pointer (some ⟨g, 0, none⟩), .int .i32 a, .int .i32 b] w fun e w' => e = .returned (.int .i32 (2 + (ks.idxOf (a, b) : Int))) ∧ Below w.heap.size w w' := by
  obtain ⟨⟨f, vS, vT, mb, D, hr, e2, e3, e4, e5, hS, hT, hM, hI, ho⟩, hwf, hlow, hsz⟩ := h
  obtain ⟨c, hc, hl⟩ := look_run hM (a, b) hk
  rw [(hI (a, b) hk).2 hm] at hc
  obtain rfl : c = 2 + (ks.idxOf (a, b) : Int) := by injection hc with hc; injection hc with _ hc; exact hc.symm
  have hh : Maps.has D (kl (a, b)) = true := by rw [(hI (a, b) hk).1]; exact decide_eq_true hm
  rw [hh] at hl
  have hr' := hr.alloc (.cells #[.int .i32 a, .int .i32 b] 42)
  have c3 := hr'.cell (i := 3) (by omega)
  rw [e3] at c3
  have hl0 : (Instr.lookup 59 (.map (some mb)) (.agg #[.int .i32 a, .int .i32 b]) true).run Try.prog (w.alloc (.cells #[.int .i32 a, .int .i32 b] 42)) = _ := hl _ (hM.alloc _)
  have hlq : ∀ q, (Instr.lookup 59 (.map (some mb)) (.agg #[.int .i32 a, .int .i32 b]) true).run Try.prog ((w.alloc (.cells #[.int .i32 a, .int .i32 b] 42)).drewN q) = _ := fun q => hl _ (hM.alloc _)
  generalize 2 + (ks.idxOf (a, b) : Int) = r at *
  clear hI hS hT hl hr hr'
  go_enter Try.func25, Try.ntmps25
  go_wp2_with fail
  go_quiet (fail)
  go_wp2_with fail
  go_ret
  exact ⟨rfl, ((Below.refl _ _).alloc (Nat.le_refl _) _).trans ⟨rfl, rfl, rfl, Nat.le_refl _, fun _ _ => rfl⟩⟩

theorem cell_two_new (w : World) (x y : Value) (t : TypeId) : ∀ j u, [x, y][j]? = some u → (w.alloc (.cells #[x, y] t)).cell? ((⟨w.heap.size, 0, none⟩ : Addr).add j) = some u := by
  intro j u hj
  match j, hj with
  | 0, hj =>
    simp at hj
    subst hj
    simp [Addr.add]
  | 1, hj =>
    simp at hj
    subst hj
    simp [Addr.add]

theorem wf32 {n : Int} (h1 : -2147483648 ≤ n) (h2 : n ≤ 2147483647) : (Lit.int .i32 n).wf = true := WalkArith.wf_i32 ⟨h1, h2⟩

theorem Turn.row {o : Nat → Prop} {w w' : World} {base m k : Nat} {e : TypeId} {v : Value} {xs : List Value} (t : Turn o w w') (h : w.ownsRow base e m v k xs) (hne : ∀ b, v.ownBlock = some b → ¬ o b) : w'.ownsRow base e m v k xs := by
  obtain ⟨hl, h⟩ := h
  rcases h with h | ⟨g, cap, cur, hv, hb, hg, r⟩
  · exact ⟨hl, .inl h⟩
  · exact ⟨hl, .inr ⟨g, cap, cur, hv, hb, (t.block g (Array.getElem?_eq_some_iff.1 hg).1 (hne g (by rw [hv]; rfl))).trans hg, r⟩⟩
theorem Turn.map {o : Nat → Prop} {w w' : World} {mb n : Nat} {D : DataW Unit} (t : Turn o w w') (h : w.ownsMap Try.prog 42 (plainElem Try.prog 21) mb n D) (hne : ¬ o mb) : w'.ownsMap Try.prog 42 (plainElem Try.prog 21) mb n D := by
  have hlt := h.lt
  obtain ⟨es, clock, hb, r⟩ := h
  exact ⟨es, clock, (t.block mb hlt hne).trans hb, r⟩

theorem info42 : (Try.prog.info? 42).map (fun i => (i.zero, i.size, i.bytes)) = some (some (.agg #[.int .i32 0, .int .i32 0]), 2, 8) := by kernel_rfl

theorem rows_ne {w : World} {base m m' k k' : Nat} {T e : TypeId} {u v : Value} {xs ys : List Value} (h : w.ownsRow base T m u k xs) (h' : w.ownsRow base e m' v k' ys) (ht : T ≠ e) : u.ownBlock = none ∨ u.ownBlock ≠ v.ownBlock := by
  rcases h.2 with ⟨rfl, _⟩ | ⟨b, cap, cur, rfl, _, hb, _⟩
  · exact .inl rfl
  · right
    intro hv
    rcases h'.2 with ⟨rfl, _⟩ | ⟨b', cap', cur', rfl, _, hb', _⟩
    · cases hv
    · cases hv
      rw [hb] at hb'
      cases hb'
      exact ht rfl

theorem map_ne_row {w : World} {base m k mb n : Nat} {T : TypeId} {u : Value} {xs : List Value} {D : DataW Unit} (h : w.ownsMap Try.prog 42 (plainElem Try.prog 21) mb n D) (h' : w.ownsRow base T m u k xs) : some mb ≠ u.ownBlock := by
  obtain ⟨es, clock, hb, _⟩ := h
  intro hv
  rcases h'.2 with ⟨rfl, _⟩ | ⟨b', cap', cur', rfl, _, hb', _⟩
  · cases hv
  · cases hv
    rw [hb] at hb'
    cases hb'
theorem map_ne_blk {w : World} {g mb n m : Nat} {T : TypeId} {f : Nat → Value} {D : DataW Unit} (h : w.ownsMap Try.prog 42 (plainElem Try.prog 21) mb n D) (h' : w.rowIs g T m f) : mb ≠ g := by
  obtain ⟨es, clock, hb, _⟩ := h
  obtain ⟨c, hc, _⟩ := h'
  intro e
  subst e
  rw [hb] at hc
  cases hc

theorem grown_of {w w' : World} (h : Below w.heap.size w w') (row : Option Nat) : w.grownBy w' row := ⟨h.os, h.tape, h.output, h.size, fun i hi _ => h.block i hi⟩

/-- Behind 'm.states = append(m.states, key)'. -/
def Post6 (base g n L mb kb : Nat) (f : Nat → Value) (vT : Value) (D : DataW Unit) (ks : List (Int × Int)) (a b : Int) (own : Nat → Prop) (w wx : World) : Prop :=
  ∃ g2 cap2, wx.rowIs g 69 263 (fun j => if j = 2 then .slice (some ⟨g2, 0, none⟩) (L + 1) cap2 else f j) ∧ wx.ownsRow base 42 2 (.slice (some ⟨g2, 0, none⟩) (L + 1) cap2) (L + 1) (cellsK (ks ++ [(a, b)])) ∧
    wx.ownsRow base 21 1 vT (n * L) (List.replicate (n * L) M3) ∧ wx.ownsMap Try.prog 42 (plainElem Try.prog 21) mb L D ∧ wx.heap[kb]? = some (.cells #[.int .i32 a, .int .i32 b] 42 (0, 0)) ∧ Turn own w wx ∧ (own g2 ∨ w.heap.size ≤ g2)

theorem step6 {base g n L mb g2 cap2 : Nat} {aS : Option Addr} {cS : Nat} {f : Nat → Value} {vT : Value} {D : DataW Unit} {ks : List (Int × Int)} {a b : Int} {own : Nat → Prop} {w W X w1 : World}
    (hR : W.rowIs g 69 263 f) (hB : W.heap[w.heap.size]? = some (.cells #[.int .i32 a, .int .i32 b] 42 (0, 0))) (hS : W.ownsRow base 42 2 (.slice aS L cS) L (cellsK ks)) (hT : W.ownsRow base 21 1 vT (n * L) (List.replicate (n * L) M3))
    (hM : W.ownsMap Try.prog 42 (plainElem Try.prog 21) mb L D) (hU : Turn own w W) (hWX : Below W.heap.size W X) (hlow : (Value.slice aS L cS).ownBlock ≠ some w.heap.size) (ho : own g ∧ ∀ b, (Value.slice aS L cS).ownBlock = some b → own b)
    (hown : w1.ownsRow base 42 2 (.slice (some ⟨g2, 0, none⟩) (L + 1) cap2) (L + 1) (cellsK ks ++ [.int .i32 a, .int .i32 b])) (hgrow : X.grownBy w1 (Value.slice aS L cS).ownBlock) (hat : (Value.slice aS L cS).ownBlock = some g2 ∨ g2 = X.heap.size) :
    Post6 base g n L mb w.heap.size f vT D ks a b own w (w1.setCell ⟨g, 2, none⟩ (.slice (some ⟨g2, 0, none⟩) (L + 1) cap2)) := by
  have hgX := grown_of hWX none
  have hne := row_ne hR hS (by decide)
  have hR1 : X.rowIs g 69 263 f := hR.of_block (hWX.block g hR.lt)
  have hR2 : w1.rowIs g 69 263 f := hR1.of_block (hgrow.block g hR1.lt (fun e => hne e.symm))
  have hSX : X.ownsRow base 42 2 (.slice aS L cS) L (cellsK ks) := hS.kept hgX (by
    rcases hS.2 with ⟨h, _⟩ | ⟨_, _, _, h, _⟩
    · left; rw [h]; rfl
    · right; rw [h]; intro e; cases e)
  have hTX : X.ownsRow base 21 1 vT (n * L) (List.replicate (n * L) M3) := hT.kept hgX (by
    cases hv : vT.ownBlock
    · exact .inl rfl
    · right; intro e; cases e)
  have hMX : X.ownsMap Try.prog 42 (plainElem Try.prog 21) mb L D := hM.kept hgX (by simp)
  have hT2 : w1.ownsRow base 21 1 vT (n * L) (List.replicate (n * L) M3) := hTX.kept hgrow (rows_ne hTX hSX (by decide))
  have hM2 : w1.ownsMap Try.prog 42 (plainElem Try.prog 21) mb L D := hMX.kept hgrow (map_ne_row hMX hSX)
  have hBlt : w.heap.size < W.heap.size := (Array.getElem?_eq_some_iff.1 hB).1
  have hBX := (hWX.block _ hBlt).trans hB
  have hB2 := (hgrow.block w.heap.size (Nat.lt_of_lt_of_le hBlt hWX.size) (fun e => hlow e.symm)).trans hBX
  have hgk : w.heap.size ≠ g := by
    intro e
    obtain ⟨c, hc, hsz, _⟩ := hR
    rw [← e, hB] at hc
    cases hc
  have hset := grown_set w1 g 2 (.slice (some ⟨g2, 0, none⟩) (L + 1) cap2)
  refine ⟨g2, cap2, (hR2.set 2 _), ?_, ?_, ?_, ?_, ?_, ?_⟩
  · rw [cellsK_snoc]
    exact hown.kept hset (.inr (row_ne hR2 hown (by decide)))
  · exact hT2.kept hset (by
      by_cases h : vT.ownBlock = none
      · exact .inl h
      · exact .inr (row_ne hR2 hT2 (by decide)))
  · exact hM2.setCell (map_ne_blk hM2 hR2) _
  · rw [blk_setCell_other _ _ _ _ (by simpa using hgk)]; exact hB2
  · exact (((hU.trans (Turn.of_below (own := fun _ => False) hWX) (fun _ h => h.elim)).trans (Turn.of_grown (own := fun b => (Value.slice aS L cS).ownBlock = some b) hgrow (fun b h => h)) (fun b h => .inl (ho.2 b h)))).trans (Turn.of_set (own := fun b => b = g) w1 ⟨g, 2, none⟩ _ rfl) (fun b h => .inl (h ▸ ho.1))
  · rcases hat with h | h
    · exact .inl (ho.2 _ h)
    · right
      rw [h]
      exact Nat.le_trans hU.size hWX.size

set_option maxRecDepth 100000 in
set_option maxHeartbeats 400000 in
theorem intern_miss (base g n : Nat) (ks : List (Int × Int)) (own : Nat → Prop) (a b : Int) (w : World) (h : Mach base w g n ks own) (hk : Wf (a, b)) (hm : (a, b) ∉ ks) (hn : n ≤ 255) (hlen : ks.length ≤ 8192) :
    Calls Try.prog 25 #[.pointer (some ⟨g, 0, none⟩), .int .i32 a, .int .i32 b] w fun e w' => e = .returned (.int .i32 (2 + (ks.length : Int))) ∧ ∃ own', Mach base w' g n (ks ++ [(a, b)]) own' ∧ Turn own w w' ∧ ∀ x, own' x → own x ∨ w.heap.size ≤ x := by
  obtain ⟨⟨f, vS, vT, mb, D, hr, e2, e3, e4, e5, hS, hT, hM, hI, ho⟩, hwf, hlow, hsz⟩ := h
  obtain ⟨c, hc, hl⟩ := look_run hM (a, b) hk
  have hh : Maps.has D (kl (a, b)) = false := by rw [(hI (a, b) hk).1]; exact decide_eq_false hm
  rw [hh] at hl
  have hr' := hr.alloc (.cells #[.int .i32 a, .int .i32 b] 42)
  have c3 := hr'.cell (i := 3) (by omega)
  rw [e3] at c3
  have c2 := hr'.cell (i := 2) (by omega)
  rw [e2] at c2
  have fz := hr'.frozen
  have hl0 : (Instr.lookup 59 (.map (some mb)) (.agg #[.int .i32 a, .int .i32 b]) true).run Try.prog (w.alloc (.cells #[.int .i32 a, .int .i32 b] 42)) = _ := hl _ (hM.alloc _)
  have hlq : ∀ q, (Instr.lookup 59 (.map (some mb)) (.agg #[.int .i32 a, .int .i32 b]) true).run Try.prog ((w.alloc (.cells #[.int .i32 a, .int .i32 b] 42)).drewN q) = _ := fun q => hl _ (hM.alloc _)
  obtain ⟨aS, lS, cS, rfl⟩ : ∃ x l c, vS = .slice x l c := sl_form hS
  have hlS : lS = ks.length := by
    rcases hS.2 with ⟨h, h0⟩ | ⟨_, _, _, h, _⟩
    · injection h with _ h1 _; omega
    · injection h with _ h1 _
  subst hlS
  obtain ⟨i0, hi, hz0, hz1, hz2⟩ := info_parts info42
  have HS : Hid (w.ownsRow base 42 2 (.slice aS ks.length cS) ks.length (cellsK ks)) := hS
  have HT : Hid (w.ownsRow base 21 1 vT (n * ks.length) (List.replicate (n * ks.length) M3)) := hT
  have HM : Hid (w.ownsMap Try.prog 42 (plainElem Try.prog 21) mb ks.length D) := hM
  have HI : Hid (MapIs D ks) := hI
  have HO : Hid (own g ∧ own mb ∧ (∀ b, (Value.slice aS ks.length cS).ownBlock = some b → own b) ∧ ∀ b, vT.ownBlock = some b → own b) := ho
  have HR : Hid (w.rowIs g 69 263 f) := hr
  clear hS hT hM hI hl ho hr hr'
  generalize hL : ks.length = L at *
  go_enter Try.func25, Try.ntmps25
  go_wp2_with fail
  go_quiet (fail)
  go_wp2_with fail
  have hR1 : (((w.alloc (.cells #[.int .i32 a, .int .i32 b] 42)).drewN nq)).rowIs g 69 263 f := HR.out.alloc _
  have hB1 : (((w.alloc (.cells #[.int .i32 a, .int .i32 b] 42)).drewN nq)).heap[w.heap.size]? = some (.cells #[.int .i32 a, .int .i32 b] 42 (0, 0)) := blk_alloc_new _ _
  have hS1 : (((w.alloc (.cells #[.int .i32 a, .int .i32 b] 42)).drewN nq)).ownsRow base 42 2 (.slice aS L cS) L (cellsK ks) := World.ownsRow.alloc HS.out _
  have hT1 : (((w.alloc (.cells #[.int .i32 a, .int .i32 b] 42)).drewN nq)).ownsRow base 21 1 vT (n * L) (List.replicate (n * L) M3) := World.ownsRow.alloc HT.out _
  have hM1 : (((w.alloc (.cells #[.int .i32 a, .int .i32 b] 42)).drewN nq)).ownsMap Try.prog 42 (plainElem Try.prog 21) mb L D := HM.out.alloc _
  have hU1 : Turn own w ((w.alloc (.cells #[.int .i32 a, .int .i32 b] 42)).drewN nq) := Turn.of_below (((Below.refl _ _).alloc (Nat.le_refl _) _).trans ⟨rfl, rfl, rfl, Nat.le_refl _, fun _ _ => rfl⟩)
  have hgs : w.heap.size < ((w.alloc (.cells #[.int .i32 a, .int .i32 b] 42)).drewN nq).heap.size := by simp [World.drewN]
  have HLow : Hid ((Value.slice aS L cS).ownBlock ≠ some w.heap.size) := fun e => by have := (HS.out.lt _ e).2; omega
  clear c2 c3 fz hl0 hlq
  generalize (w.alloc (.cells #[.int .i32 a, .int .i32 b] 42)).drewN nq = W at *
  have c2 := hR1.cell (i := 2) (by omega)
  rw [e2] at c2
  have c2f := hR1.frozen 2
  have c2a : ∀ o, (W.alloc o).cell? ⟨g, 2, none⟩ = some (.slice aS L cS) := fun o => e2 ▸ (hR1.alloc o).cell (i := 2) (by omega)
  have HNe : Hid ((Value.slice aS L cS).ownBlock ≠ some g) := row_ne hR1 hS1 (by decide)
  have k0 : W.cell? ⟨w.heap.size, 0, none⟩ = some (.int .i32 a) := by simp [World.cell?, hB1]
  have k1 : W.cell? ⟨w.heap.size, 1, none⟩ = some (.int .i32 b) := by simp [World.cell?, hB1]
  go_cut [] (fun wx => Post6 base g n L mb w.heap.size f vT D ks a b own w wx)
  case first =>
    go_region_law (refine step_append_lies _ rfl _ _ 37 rfl base 42 i0 (.agg #[.int .i32 0, .int .i32 0]) 2 8 Try.underlying37 hi hz0 hz1 hz2 rfl (by decide) (.slice aS L cS) L (cellsK ks) rfl (by first | exact World.ownsRow.alloc hS1 _ | exact World.ownsRow.drew (World.ownsRow.alloc hS1 _) | exact World.ownsRow.alloc (World.ownsRow.drew hS1) _) ⟨W.heap.size, 0, none⟩ 1 1 [.int .i32 a, .int .i32 b] rfl rfl (by first | exact cell_two_new _ _ _ _ | exact cell_two_new W.drew _ _ _ | exact cell_two_new W _ _ _) (by intro u hu; simp at hu; rcases hu with rfl | rfl <;> rfl) (by decide) (by unfold maxLen; omega) (by omega) (by simp; omega) _ rfl ?_; intro g2 cap2 w1 hown hgrow hat hlt; have hR2 : w1.rowIs g 69 263 f := (hR1.alloc (.cells #[.int .i32 a, .int .i32 b] 42)).of_block (hgrow.block g (hR1.alloc (.cells #[.int .i32 a, .int .i32 b] 42)).lt (fun e => HNe.out e.symm)); have z1 := hR2.cell (i := 2) (by omega); rw [e2] at z1; have z2 := hR2.frozen 2)
    all_goals go_wp2_with fail
    all_goals go_meet
    all_goals first
      | exact step6 hR1 hB1 hS1 hT1 hM1 hU1 (((Below.refl _ _).alloc (Nat.le_refl _) _).drew) HLow.out ⟨HO.out.1, HO.out.2.2.1⟩ hown hgrow hat
      | exact step6 hR1 hB1 hS1 hT1 hM1 hU1 (((Below.refl _ _).drew).alloc (Nat.le_refl _) _) HLow.out ⟨HO.out.1, HO.out.2.2.1⟩ hown hgrow hat
  case rest =>
  obtain ⟨g2, cap2, R2, S2, T2, M2, K2b, U2, loc2⟩ := hcut
  clear hR1 hB1 hS1 hT1 hM1 hU1 c2 c2f c2a k0 k1 HNe HLow hgs
  have y3 := R2.cell (i := 3) (by omega)
  simp only [show ((3 : Nat) = 2) = False by simp, if_false, e3] at y3
  have k0 : wc.cell? ⟨w.heap.size, 0, none⟩ = some (.int .i32 a) := by simp [World.cell?, K2b]
  have k1 : wc.cell? ⟨w.heap.size, 1, none⟩ = some (.int .i32 b) := by simp [World.cell?, K2b]
  have hwv : (Lit.int .i32 (2 + (L : Int))).wf = true := wf32 (by omega) (by omega)
  obtain ⟨w3, hup, M3', G3⟩ := M2.drew.update law Try.underlying59 (by unfold maxLen; omega) (key_ok (a, b) hk) (plainElem_int (H := Unit) Try.underlying21 hwv)
  have hup' : (Instr.mapUpdate 59 (.map (some mb)) (.agg #[.int .i32 a, .int .i32 b]) (.int .i32 (2 + (L : Int)))).run Try.prog wc.drew = .ok () w3 := hup
  clear hup
  go_wp2_with fail
  go_region
  have hgm : mb ≠ g := map_ne_blk M2 R2
  have U3 : Turn (fun x => x = mb) wc w3 := (Turn.of_below (own := fun x => x = mb) ((Below.refl wc.heap.size wc).drew)).trans (Turn.of_grown (own := fun x => x = mb) G3 (fun x h => by cases h; rfl)) (fun x h => .inl h)
  have R3 := R2.of_block (U3.block g R2.lt (fun e => hgm e.symm))
  have S3 := U3.row S2 (fun x h e => map_ne_row M2 S2 (by rw [h, e]))
  have T3 := U3.row T2 (fun x h e => map_ne_row M2 T2 (by rw [h, e]))
  have hsz3 : base ≤ w3.heap.size := Nat.le_trans hsz (Nat.le_trans U2.size U3.size)
  have hnl : n * L ≤ 255 * 8192 := Nat.mul_le_mul hn (by omega)
  have A := add_any base g (n * L) n _ vT _ w3 R3 (by simp [e4]) (by simp [e5]) T3 hsz3 (by omega)
  clear hup' hwv k0 k1 y3
  go_wp2_with fail
  refine A.mono ?_
  rintro e w4 ⟨rfl, v', R4, T4, U4, loc4⟩
  go_wp2_with fail
  go_ret
  have hlen2 : (ks ++ [(a, b)]).length = L + 1 := by simp [hL]
  have hnS : (Value.slice (some ⟨g2, 0, none⟩) (L + 1) cap2).ownBlock ≠ some g := row_ne R3 S3 (by decide)
  have hnT : vT.ownBlock ≠ some g := row_ne R3 T3 (by decide)
  have S4 : w4.ownsRow base 42 2 (.slice (some ⟨g2, 0, none⟩) (L + 1) cap2) (L + 1) (cellsK (ks ++ [(a, b)])) := U4.row S3 (fun x h h' => by
    rcases h' with rfl | h'
    · exact hnS h
    · rcases rows_ne S3 T3 (by decide) with h2 | h2
      · rw [h] at h2; cases h2
      · exact h2 (h.trans h'.symm))
  have M4 : w4.ownsMap Try.prog 42 (plainElem Try.prog 21) mb (L + 1) (D.put (kl (a, b)) (.lit (.int .i32 (2 + (L : Int))))) := U4.map M3' (fun h' => by
    rcases h' with h' | h'
    · exact hgm h'
    · exact map_ne_row M3' T3 h'.symm)
  have T4' : w4.ownsRow base 21 1 v' (n * (L + 1)) (List.replicate (n * (L + 1)) M3) := by
    rw [Nat.mul_succ, ← List.replicate_append_replicate]; exact T4
  have U : Turn own w w4 := (U2.trans U3 (fun x h => .inl (h ▸ HO.out.2.1))).trans U4 (fun x h => by
    rcases h with rfl | h
    · exact .inl HO.out.1
    · exact .inl (HO.out.2.2.2 x h))
  refine ⟨rfl, fun x => own x ∨ (w.heap.size ≤ x ∧ x < w4.heap.size), ⟨⟨_, .slice (some ⟨g2, 0, none⟩) (L + 1) cap2, v', mb, D.put (kl (a, b)) (.lit (.int .i32 (2 + (L : Int)))), R4, by simp, by simp [e3], by simp [e4], by simp, by rw [hlen2]; exact S4, by rw [hlen2]; exact T4', by rw [hlen2]; exact M4, ?_, .inl HO.out.1, .inl HO.out.2.1, ?_, ?_⟩, ?_, ?_, Nat.le_trans hsz U.size⟩, U, fun x h => h.imp id And.left⟩
  · have := HI.out.put HM.out.isMap hk hm
    rwa [hL] at this
  · intro x hx
    have hlt := (S4.lt x hx).2
    cases hx
    exact loc2.imp id (fun h => ⟨h, hlt⟩)
  · intro x hx
    have hlt := (T4'.lt x hx).2
    rcases loc4 x hx with h | h
    · exact .inl (HO.out.2.2.2 x h)
    · exact .inr ⟨Nat.le_trans (Nat.le_trans U2.size U3.size) h, hlt⟩
  · intro k hk'
    rw [List.mem_append] at hk'
    rcases hk' with h | h
    · exact hwf k h
    · have : k = (a, b) := by simpa using h
      subst this; exact hk
  · intro x hx
    have hsU := U.size
    rcases hx with h | h
    · have := hlow x h
      omega
    · omega
end Go.Proofs.Qxb6605601a
