/-
  FnShapeInternNumbersKeysByFirstSight: the walk.
-/
import Derived.Test.Qxb6605601aClone
namespace Go.Proofs.Qxb6605601a
open Go.RowKit Go.Maps Go.Deep

/-- The keys seen after k rounds. -/
def sk (ks : List (Int × Int)) (k : Nat) : List (Int × Int) := (ks.take k).foldl ins []

theorem sk_zero (ks : List (Int × Int)) : sk ks 0 = [] := rfl
theorem sk_succ (ks : List (Int × Int)) (k : Nat) (h : k < ks.length) : sk ks (k + 1) = ins (sk ks k) (ks.getD k (0, 0)) := by
  unfold sk
  rw [List.take_succ_eq_append_getElem h, List.foldl_append, List.getD_eq_getElem?_getD, List.getElem?_eq_getElem h]
  rfl
theorem ins_len (S : List (Int × Int)) (p : Int × Int) : (ins S p).length ≤ S.length + 1 := by
  unfold ins
  split <;> simp
theorem sk_len (ks : List (Int × Int)) (k : Nat) (h : k ≤ ks.length) : (sk ks k).length ≤ k := by
  induction k with
  | zero => simp [sk]
  | succ k ih =>
    rw [sk_succ ks k (by omega)]
    have := ins_len (sk ks k) (ks.getD k (0, 0))
    have := ih (by omega)
    omega

theorem sk_pos (ks : List (Int × Int)) (k : Nat) (h : 0 < k) (h' : k ≤ ks.length) : 0 < (sk ks k).length := by
  obtain ⟨m, rfl⟩ : ∃ m, k = m + 1 := ⟨k - 1, by omega⟩
  rw [sk_succ ks m (by omega)]
  unfold ins
  split
  · rename_i hm
    exact List.length_pos_of_mem hm
  · simp

theorem own_len {w : World} {base m k l c : Nat} {e : TypeId} {a : Option Addr} {xs : List Value} (h : w.ownsRow base e m (.slice a l c) k xs) : l = k := by
  rcases h.2 with ⟨h, h0⟩ | ⟨_, _, _, h, _⟩
  · injection h with _ h1 _; omega
  · injection h with _ h1 _

theorem cellsK_get (S : List (Int × Int)) : ∀ j, j < S.length → (cellsK S)[j * 2]? = some (.int .i32 (S.getD j (0, 0)).1) ∧ (cellsK S)[j * 2 + 1]? = some (.int .i32 (S.getD j (0, 0)).2) := by
  induction S with
  | nil => intro j hj; simp at hj
  | cons p S ih =>
    intro j hj
    have e : cellsK (p :: S) = .int .i32 p.1 :: .int .i32 p.2 :: cellsK S := by simp [cellsK]
    cases j with
    | zero => rw [e]; exact ⟨rfl, rfl⟩
    | succ j =>
      have := ih j (by simpa using hj)
      rw [e, show (j + 1) * 2 = j * 2 + 1 + 1 by omega]
      simpa using this

theorem own_at {w : World} {base gs L cap : Nat} {S : List (Int × Int)} (h : w.ownsRow base 42 2 (.slice (some ⟨gs, 0, none⟩) L cap) L (cellsK S)) (hS : S.length = L) (j : Nat) (hj : j < L) :
    w.cell? ⟨gs, j * 2, none⟩ = some (.int .i32 (S.getD j (0, 0)).1) ∧ w.cell? ⟨gs, j * 2 + 1, none⟩ = some (.int .i32 (S.getD j (0, 0)).2) := by
  have hg := cellsK_get S j (by omega)
  exact ⟨(World.ownsRow.cellAt h (j * 2) (by omega)).trans hg.1, (World.ownsRow.cellAt h (j * 2 + 1) (by omega)).trans hg.2⟩

theorem idx_hit (S : List (Int × Int)) (p : Int × Int) (h : p ∈ S) : S.idxOf p < S.length ∧ S.getD (S.idxOf p) (0, 0) = p := by
  have h1 := List.idxOf_lt_length_of_mem h
  refine ⟨h1, ?_⟩
  rw [List.getD_eq_getElem?_getD, List.getElem?_eq_getElem h1]
  simp
theorem idx_before (S : List (Int × Int)) (p : Int × Int) (j : Nat) (h : j < S.idxOf p) : S.getD j (0, 0) ≠ p := by
  induction S generalizing j with
  | nil => simp at h
  | cons q S ih =>
    rw [List.idxOf_cons] at h
    by_cases e : q = p
    · subst e; simp at h
    · have hb : (q == p) = false := by simpa using e
      rw [hb] at h
      cases j with
      | zero => simpa using e
      | succ j =>
        simp at h
        simpa using ih j (by simpa using h)

theorem fits17 (a : Option Addr) (l c : Nat) (x : Value) (w : World) : Calls Try.prog 17 #[.slice a l c, x] w fun e w' => e = .returned (.bool (decide (l ≤ 1048576))) ∧ w' = w := by
  by_cases h : (1048576 : Int) < l
  · have hd : decide (l ≤ 1048576) = false := decide_eq_false (by omega)
    rw [hd]
    go_enter Try.func17, Try.ntmps17
    go_wp2
    go_ret
    exact ⟨rfl, rfl⟩
  · have hd : decide (l ≤ 1048576) = true := decide_eq_true (by omega)
    rw [hd]
    go_enter Try.func17, Try.ntmps17
    go_wp2
    go_ret
    exact ⟨rfl, rfl⟩

theorem make_seen (c : Nat) (h : c ≤ 4096) (w : World) : (Instr.makeSlice 37 (.int .i64 0) (.int .i64 (c : Int))).run Try.prog w =
    .ok (.slice (some ⟨w.heap.size, 0, none⟩) 0 c) (w.alloc (.cells (madeCells #[.int .i32 0, .int .i32 0] (c * 2)) 42)) := by
  obtain ⟨i, hi, hz, hs, hb⟩ := info_parts info42
  have hr := run_make (P := Try.prog) w 37 42 i _ Try.underlying37 hi hz .i64 .i64 0 (c : Int) (by omega) (by omega) (by rw [hb]; omega) (by omega)
  simp only [Int.toNat_natCast, hs] at hr
  exact hr

/-- What the rounds keep. -/
def Seen (B kb g n N : Nat) (f : Nat → Value) (w wr : World) (S : List (Int × Int)) (t : Value) : Prop :=
  ∃ gs cap own, t = .slice (some ⟨gs, 0, none⟩) S.length cap ∧ wr.ownsRow B 42 2 (.slice (some ⟨gs, 0, none⟩) S.length cap) S.length (cellsK S) ∧ Mach B wr g n S own ∧ ¬ own gs ∧ wr.rowIs kb 42 (N * 2) f ∧ kb < B ∧ Below w.heap.size w wr

theorem fin_round {B kb g n N g3 cap3 : Nat} {f : Nat → Value} {S S' : List (Int × Int)} {own own' : Nat → Prop} {w y z : World} (hrow : y.ownsRow B 42 2 (.slice (some ⟨g3, 0, none⟩) S'.length cap3) S'.length (cellsK S')) (hM : Mach B y g n S own) (hg : ¬ own g3) (hkr : y.rowIs kb 42 (N * 2) f) (hkb : kb < B) (hbel : Below w.heap.size w y) (hB : w.heap.size ≤ B)
    (hM' : Mach B z g n S' own') (ht : Turn own y z) (ho : ∀ x, own' x → own x ∨ y.heap.size ≤ x) : Seen B kb g n N f w z S' (.slice (some ⟨g3, 0, none⟩) S'.length cap3) := by
  have hlt : g3 < y.heap.size := (hrow.lt g3 rfl).2
  refine ⟨g3, cap3, own', rfl, ht.row hrow (fun b hb => by cases hb; exact hg), hM', fun h => (ho g3 h).elim hg (fun h => by omega), hkr.of_block (ht.block kb hkr.lt (fun h => by have := (hM.low kb h).1; omega)), hkb, hbel.trans (ht.below hbel.size (fun b hb => by have := (hM.low b hb).1; omega))⟩

/-- Behind 'seen = append(seen, k)'. -/
theorem seen_append {B kb g n N L gs cap g3 cap3 : Nat} {f : Nat → Value} {S : List (Int × Int)} {pa pb : Int} {own : Nat → Prop} {w wr X w2 : World} (HO : wr.ownsRow B 42 2 (.slice (some ⟨gs, 0, none⟩) L cap) L (cellsK S)) (HM : Mach B wr g n S own) (HG : ¬ own gs) (HKR : wr.rowIs kb 42 (N * 2) f) (hkb : kb < B) (HBL : Below w.heap.size w wr) (hB : w.heap.size ≤ B)
    (hX : Below wr.heap.size wr X) (hXB : X.heap[wr.heap.size]? = some (.cells #[.int .i32 pa, .int .i32 pb] 42 (0, 0))) (hown : w2.ownsRow B 42 2 (.slice (some ⟨g3, 0, none⟩) (L + 1) cap3) (L + 1) (cellsK S ++ [.int .i32 pa, .int .i32 pb])) (hgrow : X.grownBy w2 (some gs)) (hat : some gs = some g3 ∨ g3 = X.heap.size) :
    w2.ownsRow B 42 2 (.slice (some ⟨g3, 0, none⟩) (L + 1) cap3) (L + 1) (cellsK (S ++ [(pa, pb)])) ∧ Mach B w2 g n S own ∧ ¬ own g3 ∧ w2.rowIs kb 42 (N * 2) f ∧ Below w.heap.size w w2 ∧ w2.cell? ⟨wr.heap.size, 0, none⟩ = some (.int .i32 pa) ∧ w2.cell? ⟨wr.heap.size, 1, none⟩ = some (.int .i32 pb) := by
  have hgs : gs < wr.heap.size ∧ B ≤ gs := ⟨(HO.lt gs rfl).2, (HO.lt gs rfl).1⟩
  have ht : Turn (fun b => b = gs) wr w2 := (Turn.of_below (own := fun b => b = gs) hX).trans (Turn.of_grown (own := fun b => b = gs) hgrow (fun b h => by cases h; rfl)) (fun b h => .inl h)
  have hblk : w2.heap[wr.heap.size]? = some (.cells #[.int .i32 pa, .int .i32 pb] 42 (0, 0)) := (hgrow.block _ (Array.getElem?_eq_some_iff.1 hXB).1 (fun e => by cases e; omega)).trans hXB
  refine ⟨by rw [cellsK_snoc]; exact hown, HM.kept ht (fun b h _ e => HG (e ▸ h)), fun h => ?_, HKR.of_block (ht.block kb HKR.lt (by omega)), HBL.trans (ht.below HBL.size (fun b hb => by omega)), by simp [World.cell?, hblk], by simp [World.cell?, hblk]⟩
  have hl := HM.low g3 h
  rcases hat with e | e
  · cases e; exact HG h
  · have := hX.size; omega

set_option maxRecDepth 100000 in
set_option maxHeartbeats 300000 in
theorem num_main (a : Option Addr) (l c n : Nat) (ks : List (Int × Int)) (w : World) (h : KRow w (.slice a l c) ks) (hwf : ∀ k ∈ ks, Wf k) (hn : n ≤ 255) (hN : ks.length ≤ 4096) (hpos : 0 < ks.length) (hl : l = ks.length) :
    Calls Try.prog 5 #[.slice a l c, .int .i64 n] w fun e w' => e = .returned (.bool true) ∧ Below w.heap.size w w' := by
  have HK : Hid (KRow w (.slice a l c) ks) := h
  have HW : Hid (∀ k ∈ ks, Wf k) := hwf
  have HP : Hid (0 < ks.length) := hpos
  have HL : Hid (l = ks.length) := hl
  have HNk : Hid (ks.length ≤ 4096) := hN
  have hl' : ¬ (4096 : Int) < (l : Int) := by omega
  have hl2 : l ≤ 1048576 := by omega
  have F17 := fits17 a l c (.int .i64 n) w
  rw [decide_eq_true hl2] at F17
  have hn0 : ¬ (n : Int) < 0 := by omega
  have hn1 : ¬ (255 : Int) < (n : Int) := by omega
  clear h hwf hpos hl hl2 hN
  go_enter Try.func5, Try.ntmps5
  go_wp2_with fail
  refine F17.mono ?_
  rintro e w1 ⟨rfl, rfl⟩
  clear F17
  go_wp2_with fail
  refine (clone_any _ ks w1 HK.out HNk.out).mono ?_
  rintro e x1 ⟨u, rfl, hu, b1⟩
  rcases hu with ⟨h0, _⟩ | ⟨_, rfl, f, hf, hfk⟩
  · have := HP.out
    rw [h0] at this; simp at this
  have HF : Hid (∀ i, i < ks.length → f (i * 2) = .int .i32 (ks.getD i (0, 0)).1 ∧ f (i * 2 + 1) = .int .i32 (ks.getD i (0, 0)).2) := hfk
  have HR1 : Hid (x1.rowIs w1.heap.size 42 (ks.length * 2) f) := hf
  have HB1 : Hid (Below w1.heap.size w1 x1) := b1
  clear hfk hf b1
  go_wp2_with fail
  refine (mach_new n x1).mono ?_
  rintro e x2 ⟨rfl, M2, b2, hs2⟩
  have HM2 : Hid (Mach x1.heap.size x2 (x1.heap.size + 1) n [] (fun x => x = x1.heap.size ∨ x = x1.heap.size + 1)) := M2
  have HB2 : Hid (Below x1.heap.size x1 x2) := b2
  have HS2 : Hid (x2.heap.size = x1.heap.size + 2) := hs2
  clear M2 b2 hs2
  have hmk := make_seen ks.length HNk.out
  have HKB : Hid (w1.heap.size < x1.heap.size) := HR1.out.lt
  have HSL : Hid (∀ k, k ≤ ks.length → (sk ks k).length ≤ k) := sk_len ks
  have HSS : Hid (∀ k, k < ks.length → sk ks (k + 1) = ins (sk ks k) (ks.getD k (0, 0))) := sk_succ ks
  have HWg : Hid (∀ k, k < ks.length → Wf (ks.getD k (0, 0))) := fun k hk => HW.out _ (by rw [List.getD_eq_getElem?_getD, List.getElem?_eq_getElem hk]; simp)
  generalize hNN : ks.length = N at *
  have HNN : Hid (ks.length = N) := hNN
  clear hNN
  have hN := HNk.out
  go_wp2_with fail
  clear hmk
  go_loopw [6, 7] (fun t i wr => ∃ k : Nat, k ≤ N ∧ i = .int .i64 k ∧ Seen x1.heap.size w1.heap.size (x1.heap.size + 1) n N f w1 wr (sk ks k) t) (fun _ i _ => N - (intOf i).toNat)
  case atStart =>
    have hB12 : Below w1.heap.size w1 x2 := HB1.out.trans (HB2.out.mono HB1.out.size)
    have hT : Turn (fun _ => False) x2 (x2.alloc (.cells (madeCells #[.int .i32 0, .int .i32 0] (N * 2)) 42)) := Turn.of_alloc _ _
    refine ⟨0, Nat.zero_le _, rfl, x2.heap.size, N, _, rfl, ?_, HM2.out.kept hT (fun _ _ _ h => h), ?_, ?_, HKB.out, hB12.trans ((Below.refl _ _).alloc hB12.size _)⟩
    · exact World.ownsRow_made (base := x1.heap.size) (e := 42) (size := 2) x2 _ N HB2.out.size (by unfold maxLen; omega) (by rw [size_madeCells])
    · intro h; have := HS2.out; omega
    · exact (HR1.out.of_block (HB2.out.block _ HKB.out)).alloc _
  case round =>
    obtain ⟨k, hk, rfl, gs, cap, own, rfl, hown, hM, hgs, hkr, hkb, hbel⟩ := hrel
    have hSl := HSL.out k hk
    by_cases hlt : k < N
    · have hss := HSS.out k hlt
      have hw := HWg.out k hlt
      have hf := HF.out k hlt
      generalize ks.getD k (0, 0) = p at *
      generalize hS : sk ks k = S at *
      have HSS1 : Hid (sk ks (k + 1) = ins S p) := hss
      obtain ⟨pa, pb⟩ := p
      have c0 := hkr.cell (i := k * 2) (by omega)
      have c1 := hkr.cell (i := k * 2 + 1) (by omega)
      rw [hf.1] at c0
      rw [hf.2] at c1
      have HO : Hid (wr.ownsRow x1.heap.size 42 2 (.slice (some ⟨gs, 0, none⟩) S.length cap) S.length (cellsK S)) := hown
      have HM : Hid (Mach x1.heap.size wr (x1.heap.size + 1) n S own) := hM
      have HG : Hid (¬ own gs) := hgs
      have HKR : Hid (wr.rowIs w1.heap.size 42 (N * 2) f) := hkr
      have HBL : Hid (Below w1.heap.size w1 wr) := hbel
      have HWp : Hid (Wf (pa, pb)) := hw
      clear hown hM hgs hkr hbel hw hf hss hS HSS HSL HWg
      by_cases hin : (pa, pb) ∈ S
      · have HIns : Hid (ins S (pa, pb) = S) := if_pos hin
        obtain ⟨hil, hig⟩ := idx_hit S (pa, pb) hin
        have HNI : Hid (∀ j, j < S.idxOf (pa, pb) → S.getD j (0, 0) ≠ (pa, pb)) := idx_before S (pa, pb)
        have HWS : Hid (∀ j, j < S.length → Wf (S.getD j (0, 0))) := fun j hj => HM.out.wf _ (by rw [List.getD_eq_getElem?_getD, List.getElem?_eq_getElem hj]; simp)
        have HIdx : Hid ((ins S (pa, pb)).idxOf (pa, pb) = S.idxOf (pa, pb)) := by show _ = _; rw [HIns.out]
        have HIG : Hid (S.getD (S.idxOf (pa, pb)) (0, 0) = (pa, pb)) := hig
        clear hin hig
        generalize S.idxOf (pa, pb) = I at *
        generalize hLL : S.length = L at *
        have HLL : Hid (S.length = L) := hLL
        clear hLL
        go_wp2_with fail
        go_loopw [9, 10] (fun wt j wr2 => ∃ j' q : Nat, j' ≤ I ∧ j = .int .i64 j' ∧ wt = .int .i32 (-1) ∧ wr2 = (wr.alloc (.cells #[.int .i32 pa, .int .i32 pb] 42)).drewN q) (fun _ j _ => L - (intOf j).toNat)
        case atStart => exact ⟨0, 0, Nat.zero_le _, rfl, rfl, rfl⟩
        case round =>
          obtain ⟨j, q, hj, rfl, rfl, rfl⟩ := hrel
          have hjl : j < L := by omega
          have hat := own_at (World.ownsRow.alloc HO.out (.cells #[.int .i32 pa, .int .i32 pb] 42)) HLL.out j hjl
          by_cases hjI : j = I
          · have hg := HIG.out
            rw [← hjI] at hg
            rw [hg] at hat
            have heq : ∀ w', (binOp .eql 42 (.agg #[.int .i32 pa, .int .i32 pb]) (.agg #[.int .i32 pa, .int .i32 pb])).run Try.prog w' = .ok (.bool true) w' := fun w' => by
              have := eq_run (pa, pb) (pa, pb) HWp.out HWp.out w'
              rwa [decide_eq_true rfl] at this
            obtain ⟨a0, a1⟩ := hat
            clear hg
            have HBw : Hid (w1.heap.size ≤ x1.heap.size) := HB1.out.size
            have HJI : Hid (j = I) := hjI
            clear hjI
            go_wp2_with fail
            go_quiet (fail)
            go_wp2_with fail
            have hY : Below wr.heap.size wr ((wr.alloc (.cells #[.int .i32 pa, .int .i32 pb] 42)).drewN (q + nq)) := ((Below.refl _ _).alloc (Nat.le_refl _) _).trans ⟨rfl, rfl, rfl, Nat.le_refl _, fun _ _ => rfl⟩
            have tY : Turn (fun _ => False) wr ((wr.alloc (.cells #[.int .i32 pa, .int .i32 pb] 42)).drewN (q + nq)) := Turn.of_below hY
            have MY := HM.out.kept tY (fun _ _ _ h => h)
            have OY := tY.row HO.out (fun _ _ h => h)
            have KY := HKR.out.of_block (tY.block _ HKR.out.lt (fun h => h))
            have BY : Below w1.heap.size w1 ((wr.alloc (.cells #[.int .i32 pa, .int .i32 pb] 42)).drewN (q + nq)) := HBL.out.trans (hY.mono HBL.out.size)
            have Z := zzintern_any x1.heap.size (x1.heap.size + 1) n S own pa pb _ MY HWp.out hn (by rw [HLL.out]; omega)
            rw [HIdx.out, ← HJI.out] at Z
            refine Z.mono ?_
            rintro e z ⟨rfl, own', M', T', O'⟩
            have HSe : Hid (Seen x1.heap.size w1.heap.size (x1.heap.size + 1) n N f w1 z (ins S (pa, pb)) (.slice (some ⟨gs, 0, none⟩) L cap)) := by
              rw [HIns.out] at M' ⊢
              rw [← HLL.out] at OY
              have := fin_round OY MY HG.out KY hkb BY HBw.out M' T' O'
              rwa [HLL.out] at this
            clear Z M' T' O' OY MY KY BY hY tY a0 a1
            go_wp2_with fail
            go_roundw
            case rel => exact ⟨k + 1, by omega, by go_num, by rw [HSS1.out]; exact HSe.out⟩
            case measure => simp [intOf]; omega
          · have hwq := HWS.out j hjl
            have hne := HNI.out j (by omega)
            generalize S.getD j (0, 0) = z at *
            obtain ⟨za, zb⟩ := z
            have heq : ∀ w', (binOp .eql 42 (.agg #[.int .i32 za, .int .i32 zb]) (.agg #[.int .i32 pa, .int .i32 pb])).run Try.prog w' = .ok (.bool false) w' := fun w' => by
              have := eq_run (za, zb) (pa, pb) hwq HWp.out w'
              rwa [decide_eq_false hne] at this
            obtain ⟨a0, a1⟩ := hat
            clear hne hwq
            go_wp2_with fail
            go_quiet (fail)
            go_wp2_with fail
            go_roundw
            case rel => exact ⟨j + 1, _, by omega, by go_num, rfl, rfl⟩
            case measure => simp [intOf]; omega
      · have HNI : Hid (∀ j, j < S.length → S.getD j (0, 0) ≠ (pa, pb) ∧ Wf (S.getD j (0, 0))) := fun j hj => by
          have hm : S.getD j (0, 0) ∈ S := by rw [List.getD_eq_getElem?_getD, List.getElem?_eq_getElem hj]; simp
          exact ⟨fun e => hin (e ▸ hm), HM.out.wf _ hm⟩
        have HIns : Hid (ins S (pa, pb) = S ++ [(pa, pb)]) := if_neg hin
        have HIdx : Hid ((ins S (pa, pb)).idxOf (pa, pb) = S.length) := by
          show _ = _
          rw [show ins S (pa, pb) = S ++ [(pa, pb)] from if_neg hin, List.idxOf_append, if_neg hin]; simp
        clear hin
        generalize hLL : S.length = L at *
        have HLL : Hid (S.length = L) := hLL
        clear hLL
        go_wp2_with fail
        go_loopw [9, 10] (fun wt j wr2 => ∃ j' q : Nat, j' ≤ L ∧ j = .int .i64 j' ∧ wt = .int .i32 (-1) ∧ wr2 = (wr.alloc (.cells #[.int .i32 pa, .int .i32 pb] 42)).drewN q) (fun _ j _ => L - (intOf j).toNat)
        case atStart => exact ⟨0, 0, Nat.zero_le _, rfl, rfl, rfl⟩
        case round =>
          obtain ⟨j, q, hj, rfl, rfl, rfl⟩ := hrel
          by_cases hjl : j < L
          · have hat := own_at (World.ownsRow.alloc HO.out (.cells #[.int .i32 pa, .int .i32 pb] 42)) HLL.out j hjl
            obtain ⟨hne, hwq⟩ := HNI.out j hjl
            generalize S.getD j (0, 0) = z at *
            obtain ⟨za, zb⟩ := z
            have heq : ∀ w', (binOp .eql 42 (.agg #[.int .i32 za, .int .i32 zb]) (.agg #[.int .i32 pa, .int .i32 pb])).run Try.prog w' = .ok (.bool false) w' := fun w' => by
              have := eq_run (za, zb) (pa, pb) hwq HWp.out w'
              rwa [decide_eq_false hne] at this
            obtain ⟨a0, a1⟩ := hat
            clear hne hwq
            go_wp2_with fail
            go_quiet (fail)
            go_wp2_with fail
            go_roundw
            case rel => exact ⟨j + 1, _, by omega, by go_num, rfl, rfl⟩
            case measure => simp [intOf]; omega
          · obtain rfl : L = j := by omega
            have hL4 : L ≤ 4096 := by omega
            obtain ⟨i0, hi, hz0, hz1, hz2⟩ := info_parts info42
            have hszB : x1.heap.size ≤ wr.heap.size := HM.out.size
            have HX : Hid (Below wr.heap.size wr (((wr.alloc (.cells #[.int .i32 pa, .int .i32 pb] 42)).drewN q).alloc (.cells #[.int .i32 pa, .int .i32 pb] 42))) := ((Below.refl _ _).alloc (Nat.le_refl _) _).trans ((show Below wr.heap.size (wr.alloc (.cells #[.int .i32 pa, .int .i32 pb] 42)) ((wr.alloc (.cells #[.int .i32 pa, .int .i32 pb] 42)).drewN q) from ⟨rfl, rfl, rfl, Nat.le_refl _, fun _ _ => rfl⟩).trans ((Below.refl _ _).alloc (by simp) _))
            have HXB : Hid ((((wr.alloc (.cells #[.int .i32 pa, .int .i32 pb] 42)).drewN q).alloc (.cells #[.int .i32 pa, .int .i32 pb] 42)).heap[wr.heap.size]? = some (.cells #[.int .i32 pa, .int .i32 pb] 42 (0, 0))) := (Below.heap_alloc _ _ _ (by simp)).trans (blk_alloc_new _ _)
            have HBw : Hid (w1.heap.size ≤ x1.heap.size) := HB1.out.size
            go_wp2_with (at_builtin; refine wpList_append_lies _ rfl _ _ 37 rfl x1.heap.size 42 i0 (.agg #[.int .i32 0, .int .i32 0]) 2 8 Try.underlying37 hi hz0 hz1 hz2 rfl (by decide) (.slice (some ⟨gs, 0, none⟩) L cap) L (cellsK S) rfl (World.ownsRow.alloc (World.ownsRow.alloc HO.out _) _) ⟨wr.heap.size + 1, 0, none⟩ 1 1 [.int .i32 pa, .int .i32 pb] rfl rfl (by have := cell_two_new ((wr.alloc (.cells #[.int .i32 pa, .int .i32 pb] 42)).drewN q) (.int .i32 pa) (.int .i32 pb) 42; simpa using this) (by intro u hu; simp at hu; rcases hu with rfl | rfl <;> rfl) (by decide) (by unfold maxLen; omega) (by omega) (by simp; omega) _ rfl ?_; intro g3 cap3 w2 hown3 hgrow3 hat3 hlt3; obtain ⟨r1, r2, r3, r4, r5, r6, r7⟩ := seen_append HO.out HM.out HG.out HKR.out hkb HBL.out HBw.out HX.out HXB.out hown3 hgrow3 hat3; have R1 : Hid _ := r1; have R2 : Hid _ := r2; have R3 : Hid _ := r3; have R4 : Hid _ := r4; have R5 : Hid _ := r5; clear r1 r2 r3 r4 r5 hown3 hgrow3 hat3)
            have Z := zzintern_any x1.heap.size (x1.heap.size + 1) n S own pa pb w2 R2.out HWp.out hn (by rw [HLL.out]; omega)
            rw [HIdx.out] at Z
            refine Z.mono ?_
            rintro e z ⟨rfl, own', M', T', O'⟩
            have HSe : Hid (Seen x1.heap.size w1.heap.size (x1.heap.size + 1) n N f w1 z (ins S (pa, pb)) (.slice (some ⟨g3, 0, none⟩) (L + 1) cap3)) := by
              have hr := R1.out
              rw [← HIns.out] at hr
              have e1 : (ins S (pa, pb)).length = L + 1 := by rw [HIns.out, List.length_append, HLL.out]; rfl
              rw [← e1] at hr
              have := fin_round hr R2.out R3.out R4.out hkb R5.out HBw.out M' T' O'
              rwa [e1] at this
            clear Z M' T' O' R1 R2 R3 R4 R5 r6 r7
            go_wp2_with fail
            go_roundw
            case rel => exact ⟨k + 1, by omega, by go_num, by rw [HSS1.out]; exact HSe.out⟩
            case measure => simp [intOf]; omega
    · obtain rfl : N = k := by omega
      have hpos : 0 < (sk ks N).length := sk_pos ks N HP.out (by rw [HNN.out]; exact Nat.le_refl _)
      generalize sk ks N = S at *
      obtain ⟨L, hLL⟩ : ∃ L, S.length = L := ⟨_, rfl⟩
      have St := states_any _ _ _ _ _ _ hM
      have HM : Hid (Mach x1.heap.size wr (x1.heap.size + 1) n S own) := hM
      have HO : Hid (wr.ownsRow x1.heap.size 42 2 (.slice (some ⟨gs, 0, none⟩) L cap) L (cellsK S)) := by rw [← hLL]; exact hown
      have HBL : Hid (Below w1.heap.size w1 wr) := hbel
      have HWS : Hid (∀ j, j < S.length → Wf (S.getD j (0, 0))) := fun j hj => hM.wf _ (by rw [List.getD_eq_getElem?_getD, List.getElem?_eq_getElem hj]; simp)
      clear hown hM hgs hkr hbel HSS HSL HWg
      rw [hLL] at hpos hSl St HWS ⊢
      have HLL : Hid (S.length = L) := hLL
      clear hLL
      go_wp2_with fail
      refine St.mono ?_
      rintro e w2 ⟨rfl, aS, ls, cs, rfl, hrS, _⟩
      obtain rfl := own_len hrS
      obtain ⟨gS, capS, hgS, _, _⟩ := hrS.form hpos
      cases hgS
      have HrS : Hid (w2.ownsRow x1.heap.size 42 2 (.slice (some ⟨gS, 0, none⟩) ls cs) ls (cellsK S)) := hrS
      clear hrS St
      go_wp2_with fail
      go_loopw [12] (fun i wr2 => ∃ j q : Nat, j ≤ ls ∧ i = .int .i64 j ∧ wr2 = w2.drewN q) (fun i _ => ls - (intOf i).toNat)
      case atStart => exact ⟨0, 0, Nat.zero_le _, rfl, rfl⟩
      case round =>
        obtain ⟨j, q, hj, rfl, rfl⟩ := hrel
        by_cases hjl : j < ls
        · have hat := own_at HO.out HLL.out j hjl
          have hat2 := own_at HrS.out HLL.out j hjl
          have hwq := HWS.out j hjl
          generalize S.getD j (0, 0) = z at *
          obtain ⟨za, zb⟩ := z
          have heq : ∀ w', (binOp .neq 42 (.agg #[.int .i32 za, .int .i32 zb]) (.agg #[.int .i32 za, .int .i32 zb])).run Try.prog w' = .ok (.bool false) w' := fun w' => by
            have := ne_run (za, zb) (za, zb) hwq hwq w'
            rwa [decide_eq_true rfl] at this
          obtain ⟨a0, a1⟩ := hat
          obtain ⟨a2, a3⟩ := hat2
          clear hwq
          go_wp2_with fail
          go_quiet (fail)
          go_wp2_with fail
          go_roundw
          case rel => exact ⟨j + 1, _, by omega, by go_num, rfl⟩
          case measure => simp [intOf]; omega
        · obtain rfl : ls = j := by omega
          have MY := HM.out.kept (Turn.of_below (own := fun _ => False) (show Below w2.heap.size w2 (w2.drewN q) from ⟨rfl, rfl, rfl, Nat.le_refl _, fun _ _ => rfl⟩)) (fun _ _ _ h => h)
          have Tb := table_any _ _ _ _ _ _ MY
          rw [HLL.out] at Tb
          have hPb : n * ls ≤ 255 * 4096 := Nat.mul_le_mul hn (by omega)
          obtain ⟨P, hP⟩ : ∃ P, n * ls = P := ⟨_, rfl⟩
          rw [hP] at Tb hPb
          have hPi : (n : Int) * (ls : Int) = (P : Int) := by rw [← hP]; simp
          have HBY : Hid (Below w1.heap.size w1 (w2.drewN q)) := HBL.out.trans ⟨rfl, rfl, rfl, Nat.le_refl _, fun _ _ => rfl⟩
          clear hP MY
          go_wp2_with fail
          refine Tb.mono ?_
          rintro e w3 ⟨rfl, aT, lT, cT, rfl, hrT⟩
          obtain rfl := own_len hrT
          by_cases hP0 : lT = 0
          · subst hP0
            go_wp2_with fail
            refine wp_loop_rounds 1 ?_
            rw [rounds_succ]
            go_wp2_with fail
            go_ret
            exact ⟨rfl, HBY.out⟩
          · obtain ⟨gT, capT, hgT, _, _⟩ := hrT.form (by omega)
            cases hgT
            have HrT : Hid ((w2.drewN q).ownsRow x1.heap.size 21 1 (.slice (some ⟨gT, 0, none⟩) lT cT) lT (List.replicate lT M3)) := hrT
            clear hrT Tb
            go_wp2_with fail
            go_loop [14] (fun i => ∃ j : Nat, j ≤ lT ∧ i = .int .i64 j) (fun i => lT - (intOf i).toNat)
            case atStart => exact ⟨0, Nat.zero_le _, rfl⟩
            case round =>
              obtain ⟨m, hm, rfl⟩ := hrel
              by_cases hml : m < lT
              · have hc := World.ownsRow.cellAt HrT.out m (by omega)
                rw [List.getElem?_replicate, if_pos hml] at hc
                simp only [World.cell?_drewN] at hc
                go_wp2_with fail
                go_round
                case rel => exact ⟨m + 1, by omega, by go_num⟩
                case measure => simp [intOf]; omega
              · obtain rfl : lT = m := by omega
                go_wp2_with fail
                go_ret
                exact ⟨rfl, HBY.out⟩
end Go.Proofs.Qxb6605601a
