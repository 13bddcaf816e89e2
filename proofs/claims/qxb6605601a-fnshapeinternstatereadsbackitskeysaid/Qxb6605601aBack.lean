/-
  FnShapeInternStateReadsBackItsKey: the walk.
-/
import Derived.Test.Qxb6605601aNumAll
namespace Go.Proofs.Qxb6605601a
open Go.RowKit Go.Maps Go.Deep

theorem mem_ins (S : List (Int × Int)) (p : Int × Int) : p ∈ ins S p := by
  unfold ins
  split
  · assumption
  · simp
theorem ins_keeps {S : List (Int × Int)} {p x : Int × Int} (h : x ∈ S) : x ∈ ins S p ∧ (ins S p).idxOf x = S.idxOf x := by
  unfold ins
  split
  · exact ⟨h, rfl⟩
  · exact ⟨by simp [h], by rw [List.idxOf_append, if_pos h]⟩
theorem mem_sk (ks : List (Int × Int)) (k : Nat) (h : k ≤ ks.length) : ∀ j, j < k → ks.getD j (0, 0) ∈ sk ks k := by
  induction k with
  | zero => intro j hj; omega
  | succ k ih =>
    intro j hj
    rw [sk_succ ks k (by omega)]
    by_cases e : j = k
    · subst e; exact mem_ins _ _
    · exact (ins_keeps (ih (by omega) j (by omega))).1
theorem idx_sk (ks : List (Int × Int)) (k j : Nat) (h : k < ks.length) (hj : j < k) : (sk ks (k + 1)).idxOf (ks.getD j (0, 0)) = (sk ks k).idxOf (ks.getD j (0, 0)) := by
  rw [sk_succ ks k h]
  exact (ins_keeps (mem_sk ks k (by omega) j hj)).2

theorem zzintern_hit (base g n : Nat) (ks : List (Int × Int)) (own : Nat → Prop) (a b : Int) (w : World) (h : Mach base w g n ks own) (hk : Wf (a, b)) (hm : (a, b) ∈ ks) :
    Calls Try.prog 20 #[.pointer (some ⟨g, 0, none⟩), .int .i32 a, .int .i32 b] w fun e w' => e = .returned (.int .i32 (2 + (ks.idxOf (a, b) : Int))) ∧ Below w.heap.size w w' := by
  have A := intern_hit base g n ks own a b w h hk hm
  go_enter Try.func20, Try.ntmps20
  go_wp2_with fail
  refine A.mono ?_
  rintro e w' ⟨rfl, hx⟩
  go_wp2_with fail
  go_ret
  exact ⟨rfl, hx⟩

/-- What the rounds of the first loop keep. -/
def Got (B kb g gb n N : Nat) (f : Nat → Value) (ks : List (Int × Int)) (w wr : World) (k : Nat) : Prop :=
  ∃ own hv, Mach B wr g n (sk ks k) own ∧ ¬ own gb ∧ wr.rowIs gb 21 N hv ∧ (∀ j, j < k → hv j = .int .i32 (2 + ((sk ks k).idxOf (ks.getD j (0, 0)) : Int))) ∧ wr.rowIs kb 42 (N * 2) f ∧ kb < B ∧ B ≤ gb ∧ Below w.heap.size w wr

/-- Behind 'got[i] = intern(..)'. -/
theorem got_step {B kb g gb n N k : Nat} {f hv : Nat → Value} {ks S S' : List (Int × Int)} {pa pb : Int} {own own' : Nat → Prop} {w wr y z : World} (hlow : ∀ b, own b → B ≤ b ∧ b < wr.heap.size) (HGB : ¬ own gb) (HGR : wr.rowIs gb 21 N hv) (HKR : wr.rowIs kb 42 (N * 2) f) (hkb : kb < B) (hBg : B ≤ gb) (hwB : w.heap.size ≤ B) (HBL : Below w.heap.size w wr)
    (hwy : Below wr.heap.size wr y) (M' : Mach B z g n S' own') (T' : Turn own y z) (O' : ∀ x, own' x → own x ∨ y.heap.size ≤ x) (HGV : ∀ j, j < k → hv j = .int .i32 (2 + (S.idxOf (ks.getD j (0, 0)) : Int))) (HIx : ∀ j, j < k → S'.idxOf (ks.getD j (0, 0)) = S.idxOf (ks.getD j (0, 0))) (HP0 : ks.getD k (0, 0) = (pa, pb)) (HS1 : sk ks (k + 1) = S') :
    Got B kb g gb n N f ks w (z.setCell ⟨gb, k, none⟩ (.int .i32 (2 + (S'.idxOf (pa, pb) : Int)))) (k + 1) := by
  have hGy : y.rowIs gb 21 N hv := HGR.of_block (hwy.block gb HGR.lt)
  have hKy : y.rowIs kb 42 (N * 2) f := HKR.of_block (hwy.block kb HKR.lt)
  have hGz : z.rowIs gb 21 N hv := hGy.of_block (T'.block gb hGy.lt HGB)
  have hKz : z.rowIs kb 42 (N * 2) f := hKy.of_block (T'.block kb hKy.lt (fun h => by have := (hlow kb h).1; omega))
  have hng : ¬ own' gb := fun h => (O' gb h).elim HGB (fun h => by have := hGy.lt; omega)
  have hset : Turn (fun b => b = gb) z (z.setCell ⟨gb, k, none⟩ (.int .i32 (2 + (S'.idxOf (pa, pb) : Int)))) := Turn.of_set z ⟨gb, k, none⟩ _ rfl
  have hBy : Below w.heap.size w y := HBL.trans (hwy.mono HBL.size)
  have hBz : Below w.heap.size w z := hBy.trans (T'.below hBy.size (fun b hb => by have := (hlow b hb).1; omega))
  refine ⟨own', _, ?_, hng, hGz.set k _, fun j hj => ?_, hKz.of_block (hset.block kb hKz.lt (by omega)), hkb, hBg, hBz.trans (hset.below hBz.size (fun b hb => by omega))⟩
  · rw [HS1]; exact M'.kept hset (fun b h _ e => hng (e ▸ h))
  · rw [HS1]
    by_cases e : j = k
    · subst e; rw [HP0]; simp
    · simp only [e, if_false]
      rw [HGV j (by omega), HIx j (by omega)]

theorem fits23 (a : Option Addr) (l c : Nat) (x : Value) (w : World) : Calls Try.prog 23 #[.slice a l c, x] w fun e w' => e = .returned (.bool (decide (l ≤ 1048576))) ∧ w' = w := by
  by_cases h : (1048576 : Int) < l
  · have hd : decide (l ≤ 1048576) = false := decide_eq_false (by omega)
    rw [hd]
    go_enter Try.func23, Try.ntmps23
    go_wp2
    go_ret
    exact ⟨rfl, rfl⟩
  · have hd : decide (l ≤ 1048576) = true := decide_eq_true (by omega)
    rw [hd]
    go_enter Try.func23, Try.ntmps23
    go_wp2
    go_ret
    exact ⟨rfl, rfl⟩

theorem make_got (n : Nat) (h : n ≤ 4096) (w : World) : (Instr.makeSlice 24 (.int .i64 (n : Int)) (.int .i64 (n : Int))).run Try.prog w =
    .ok (.slice (some ⟨w.heap.size, 0, none⟩) n n) (w.alloc (.cells (madeCells #[.int .i32 0] n) 21)) := by
  obtain ⟨i, hi, hz, hs, hb⟩ := info_parts info21
  have hr := run_make (P := Try.prog) w 24 21 i _ Try.underlying24 hi hz .i64 .i64 n n (by omega) (by omega) (by rw [hb]; omega) (by omega)
  simp only [Int.toNat_natCast, hs, Nat.mul_one] at hr
  exact hr
theorem make_got0 (w : World) : (Instr.makeSlice 24 (.int .i64 0) (.int .i64 0)).run Try.prog w = .ok (.slice (some ⟨w.heap.size, 0, none⟩) 0 0) (w.alloc (.cells #[] 21)) := by kernel_rfl

set_option maxRecDepth 100000 in
set_option maxHeartbeats 300000 in
theorem back_main (a : Option Addr) (l c n : Nat) (ks : List (Int × Int)) (w : World) (h : KRow w (.slice a l c) ks) (hwf : ∀ k ∈ ks, Wf k) (hn : n ≤ 255) (hN : ks.length ≤ 4096) (hpos : 0 < ks.length) (hl : l = ks.length) :
    Calls Try.prog 6 #[.slice a l c, .int .i64 n] w fun e w' => e = .returned (.bool true) ∧ Below w.heap.size w w' := by
  have HK : Hid (KRow w (.slice a l c) ks) := h
  have HW : Hid (∀ k ∈ ks, Wf k) := hwf
  have HP : Hid (0 < ks.length) := hpos
  have HL : Hid (l = ks.length) := hl
  have HNk : Hid (ks.length ≤ 4096) := hN
  have hl' : ¬ (4096 : Int) < (l : Int) := by omega
  have hl2 : l ≤ 1048576 := by omega
  have F23 := fits23 a l c (.int .i64 n) w
  rw [decide_eq_true hl2] at F23
  have hn0 : ¬ (n : Int) < 0 := by omega
  have hn1 : ¬ (255 : Int) < (n : Int) := by omega
  clear h hwf hpos hl hl2 hN
  go_enter Try.func6, Try.ntmps6
  go_wp2_with fail
  refine F23.mono ?_
  rintro e w1 ⟨rfl, rfl⟩
  clear F23
  go_wp2_with fail
  refine (clone_any _ ks w1 HK.out HNk.out).mono ?_
  rintro e x1 ⟨u, rfl, hu, b1⟩
  rcases hu with ⟨h0, _⟩ | ⟨_, rfl, f, hf, hfk⟩
  · have := HP.out
    rw [h0] at this; simp at this
  have HF : Hid (∀ i, i < ks.length → f (i * 2) = .int .i32 (ks.getD i (0, 0)).1 ∧ f (i * 2 + 1) = .int .i32 (ks.getD i (0, 0)).2) := hfk
  have HR1 : Hid (x1.rowIs w1.heap.size 42 (ks.length * 2) f) := hf
  have HB1 : Hid (Below w1.heap.size w1 x1) := b1
  clear hfk hf b1
  go_wp2_with fail
  refine (mach_new n x1).mono ?_
  rintro e x2 ⟨rfl, M2, b2, hs2⟩
  have HM2 : Hid (Mach x1.heap.size x2 (x1.heap.size + 1) n [] (fun x => x = x1.heap.size ∨ x = x1.heap.size + 1)) := M2
  have HB2 : Hid (Below x1.heap.size x1 x2) := b2
  have HS2 : Hid (x2.heap.size = x1.heap.size + 2) := hs2
  clear M2 b2 hs2
  have hmk := make_got ks.length HNk.out
  have HKB : Hid (w1.heap.size < x1.heap.size) := HR1.out.lt
  have HSL : Hid (∀ k, k ≤ ks.length → (sk ks k).length ≤ k) := sk_len ks
  have HSS : Hid (∀ k, k < ks.length → sk ks (k + 1) = ins (sk ks k) (ks.getD k (0, 0))) := sk_succ ks
  have HIX : Hid (∀ k j, k < ks.length → j < k → (sk ks (k + 1)).idxOf (ks.getD j (0, 0)) = (sk ks k).idxOf (ks.getD j (0, 0))) := fun k j h1 h2 => idx_sk ks k j h1 h2
  have HWg : Hid (∀ k, k < ks.length → Wf (ks.getD k (0, 0))) := fun k hk => HW.out _ (by rw [List.getD_eq_getElem?_getD, List.getElem?_eq_getElem hk]; simp)
  have HMem : Hid (∀ j, j < ks.length → ks.getD j (0, 0) ∈ sk ks ks.length) := mem_sk ks ks.length (Nat.le_refl _)
  generalize hNN : ks.length = N at *
  have HNN : Hid (ks.length = N) := hNN
  clear hNN
  have hN := HNk.out
  go_wp2_with fail
  clear hmk
  go_loopw [7] (fun i wr => ∃ k : Nat, k ≤ N ∧ i = .int .i64 k ∧ Got x1.heap.size w1.heap.size (x1.heap.size + 1) x2.heap.size n N f ks w1 wr k) (fun i _ => N - (intOf i).toNat)
  case atStart =>
    have hB12 : Below w1.heap.size w1 x2 := HB1.out.trans (HB2.out.mono HB1.out.size)
    have hT : Turn (fun _ => False) x2 (x2.alloc (.cells (madeCells #[.int .i32 0] N) 21)) := Turn.of_alloc _ _
    refine ⟨0, Nat.zero_le _, rfl, _, _, HM2.out.kept hT (fun _ _ _ h => h), ?_, World.rowIs_made x2 _ N 21, fun j hj => by omega, ?_, HKB.out, HB2.out.size, hB12.trans ((Below.refl _ _).alloc hB12.size _)⟩
    · intro h; have := HS2.out; omega
    · exact (HR1.out.of_block (HB2.out.block _ HKB.out)).alloc _
  case round =>
    obtain ⟨k, hk, rfl, own, hv, hM, hgb, hgr, hgv, hkr, hkb, hBg, hbel⟩ := hrel
    by_cases hlt : k < N
    · have hss := HSS.out k hlt
      have hw := HWg.out k hlt
      have hf := HF.out k hlt
      have hix := fun j => HIX.out k j hlt
      have hSl := HSL.out k hk
      generalize hp0 : ks.getD k (0, 0) = p at *
      generalize hS : sk ks k = S at *
      generalize hS' : sk ks (k + 1) = S' at *
      obtain ⟨pa, pb⟩ := p
      have c0 := hkr.cell (i := k * 2) (by omega)
      have c1 := hkr.cell (i := k * 2 + 1) (by omega)
      rw [hf.1] at c0
      rw [hf.2] at c1
      have HFk : Hid (f (k * 2) = .int .i32 pa ∧ f (k * 2 + 1) = .int .i32 pb) := hf
      have hnb : x2.heap.size ≠ w1.heap.size := by omega
      have g0 := hgr.cell hlt
      have g1 := hgr.frozen k
      have hdr : Turn (fun _ => False) wr wr.drew := Turn.of_below ((Below.refl _ _).drew)
      have A := zzintern_any x1.heap.size (x1.heap.size + 1) n S own pa pb wr.drew (hM.kept hdr (fun _ _ _ h => h)) hw hn (by omega)
      have A' := zzintern_any x1.heap.size (x1.heap.size + 1) n S own pa pb wr hM hw hn (by omega)
      have HMl : Hid (∀ b, own b → x1.heap.size ≤ b ∧ b < wr.heap.size) := hM.low
      have HGB : Hid (¬ own x2.heap.size) := hgb
      have HGR : Hid (wr.rowIs x2.heap.size 21 N hv) := hgr
      have HKR : Hid (wr.rowIs w1.heap.size 42 (N * 2) f) := hkr
      have HGV : Hid (∀ j, j < k → hv j = .int .i32 (2 + (S.idxOf (ks.getD j (0, 0)) : Int))) := hgv
      have HIx : Hid (∀ j, j < k → S'.idxOf (ks.getD j (0, 0)) = S.idxOf (ks.getD j (0, 0))) := hix
      have HSS1 : Hid (S' = ins S (pa, pb)) := hss
      have HBL : Hid (Below w1.heap.size w1 wr) := hbel
      have HS1 : Hid (sk ks (k + 1) = S') := hS'
      have HP0 : Hid (ks.getD k (0, 0) = (pa, pb)) := hp0
      clear hM hgb hgr hgv hkr hbel hw hf hss hix hS hS' hp0
      have HBw : Hid (w1.heap.size ≤ x1.heap.size) := HB1.out.size
      go_wp2_with fail
      go_region_held3 (fun w' => w'.cell? ⟨w1.heap.size, k * 2, none⟩ = some (.int .i32 pa) ∧ w'.cell? ⟨w1.heap.size, k * 2 + 1, none⟩ = some (.int .i32 pb)) (first | exact ⟨by assumption, by assumption⟩ | simp [World.cell?_setCell_far, *])
        (first
          | (go_at_call 20; (first | with_reducible refine A.mono ?_ | with_reducible refine A'.mono ?_); rintro e z ⟨rfl, own', M', T', O'⟩; have hkz := HKR.out.of_block (T'.block _ HKR.out.lt (fun h => by have := (HMl.out _ h).1; omega)); have q0 := hkz.cell (i := k * 2) (by omega); have q1 := hkz.cell (i := k * 2 + 1) (by omega); rw [HFk.out.1] at q0; rw [HFk.out.2] at q1; have hgz := HGR.out.of_block (T'.block _ HGR.out.lt HGB.out); have r0 := hgz.cell hlt; have r1 := hgz.frozen k))
      all_goals
        have HGo : Hid (Got x1.heap.size w1.heap.size (x1.heap.size + 1) x2.heap.size n N f ks w1 (z.setCell ⟨x2.heap.size, k, none⟩ (.int .i32 (2 + ((ins S (pa, pb)).idxOf (pa, pb) : Int)))) (k + 1)) := by
          have hS1 := HS1.out.trans HSS1.out
          have hIx := HIx.out
          rw [HSS1.out] at hIx
          exact got_step HMl.out HGB.out HGR.out HKR.out hkb hBg HBw.out HBL.out ((Below.refl _ _).drew) M' T' O' HGV.out hIx HP0.out hS1
        clear M' T' O' A A' q0 q1 r0 r1 hkz hgz c0 c1 g0 g1 hdr
        go_wp2_with fail
        go_roundw
        case rel => exact ⟨k + 1, by omega, by go_num, HGo.out⟩
        case measure => simp [intOf]; omega
    · obtain rfl : N = k := by omega
      have hpos : 0 < (sk ks N).length := sk_pos ks N HP.out (by rw [HNN.out]; exact Nat.le_refl _)
      have hSl := HSL.out N hk
      have HWS : Hid (∀ j, j < (sk ks N).length → Wf ((sk ks N).getD j (0, 0))) := fun j hj => hM.wf _ (by rw [List.getD_eq_getElem?_getD, List.getElem?_eq_getElem hj]; simp)
      generalize sk ks N = S at *
      obtain ⟨L, hLL⟩ : ∃ L, S.length = L := ⟨_, rfl⟩
      have HLL : Hid (S.length = L) := hLL
      rw [hLL] at hpos hSl
      have St := states_any _ _ _ _ _ _ hM
      rw [hLL] at St
      have HM : Hid (Mach x1.heap.size wr (x1.heap.size + 1) n S own) := hM
      have HGR : Hid (wr.rowIs x2.heap.size 21 N hv) := hgr
      have HGV : Hid (∀ j, j < N → hv j = .int .i32 (2 + (S.idxOf (ks.getD j (0, 0)) : Int))) := hgv
      have HKR : Hid (wr.rowIs w1.heap.size 42 (N * 2) f) := hkr
      have HBL : Hid (Below w1.heap.size w1 wr) := hbel
      clear hM hgb hgr hgv hkr hbel HSS HSL HIX hLL
      go_wp2_with fail
      refine St.mono ?_
      rintro e w2 ⟨rfl, aS, ls, cs, rfl, hrS, _⟩
      obtain rfl := own_len hrS
      obtain ⟨gS, capS, hgS, _, _⟩ := hrS.form hpos
      cases hgS
      have HrS : Hid (w2.ownsRow x1.heap.size 42 2 (.slice (some ⟨gS, 0, none⟩) ls cs) ls (cellsK S)) := hrS
      clear hrS St
      go_wp2_with fail
      rw [show decide (N < ls) = false from decide_eq_false (by omega)]
      go_loopw [10] (fun i wr2 => ∃ j : Nat, j ≤ N ∧ i = .int .i64 j ∧ Below w2.heap.size w2 wr2) (fun i _ => N - (intOf i).toNat)
      case atStart => exact ⟨0, Nat.zero_le _, rfl, Below.refl _ _⟩
      case round =>
        obtain ⟨j, hj, rfl, hby⟩ := hrel
        by_cases hjl : j < N
        · have hmem := HMem.out j hjl
          have hw := HWg.out j hjl
          have hf := HF.out j hjl
          have hg := HGV.out j hjl
          obtain ⟨hil, hig⟩ := idx_hit S _ hmem
          have hT : Turn (fun _ => False) w2 wr := Turn.of_below hby
          have hMy := HM.out.kept hT (fun _ _ _ h => h)
          have hOy := hT.row HrS.out (fun _ _ h => h)
          have hKy := HKR.out.of_block (hT.block _ HKR.out.lt (fun h => h))
          have hGy := HGR.out.of_block (hT.block _ HGR.out.lt (fun h => h))
          generalize ks.getD j (0, 0) = p at *
          obtain ⟨pa, pb⟩ := p
          have hat := own_at hOy HLL.out _ (by rw [HLL.out] at hil; exact hil)
          rw [hig] at hat
          have c0 := hKy.cell (i := j * 2) (by omega)
          have c1 := hKy.cell (i := j * 2 + 1) (by omega)
          rw [hf.1] at c0
          rw [hf.2] at c1
          have g0 := hGy.cell hjl
          rw [hg] at g0
          rw [HLL.out] at hil
          have A := zzintern_hit x1.heap.size (x1.heap.size + 1) n S own pa pb wr hMy hw hmem
          have Aq := fun q => zzintern_hit x1.heap.size (x1.heap.size + 1) n S own pa pb ((wr.drewN q).drew) (hMy.kept (Turn.of_below (own := fun _ => False) (show Below wr.heap.size wr ((wr.drewN q).drew) from ⟨rfl, rfl, rfl, Nat.le_refl _, fun _ _ => rfl⟩)) (fun _ _ _ h => h)) hw hmem
          have heq : ∀ w', (binOp .neq 42 (.agg #[.int .i32 pa, .int .i32 pb]) (.agg #[.int .i32 pa, .int .i32 pb])).run Try.prog w' = .ok (.bool false) w' := fun w' => by
            have := ne_run (pa, pb) (pa, pb) hw hw w'
            rwa [decide_eq_true rfl] at this
          obtain ⟨a0, a1⟩ := hat
          have HBy : Hid (Below w2.heap.size w2 wr) := hby
          generalize S.idxOf (pa, pb) = I at *
          clear hmem hw hf hg hig hT hMy hOy hKy hGy hby
          have hI4 : I ≤ 4096 := by omega
          go_wp2_with fail
          go_quiet (fail)
          go_wp2_with fail
          have Aq' := Aq nq
          clear Aq
          go_region_held3 (fun w' => w'.cell? ⟨w1.heap.size, j * 2, none⟩ = some (.int .i32 pa) ∧ w'.cell? ⟨w1.heap.size, j * 2 + 1, none⟩ = some (.int .i32 pb)) (first | exact ⟨by assumption, by assumption⟩ | simp [*])
            (first
              | (go_at_call 20; (first | with_reducible refine Aq'.mono ?_ | refine Aq'.mono ?_); rintro e z ⟨rfl, hbz⟩; have q0 : z.cell? ⟨w1.heap.size, j * 2, none⟩ = some (.int .i32 pa) := (hbz.cell (p := ⟨w1.heap.size, j * 2, none⟩) (cell_lt c0)).trans c0; have q1 : z.cell? ⟨w1.heap.size, j * 2 + 1, none⟩ = some (.int .i32 pb) := (hbz.cell (p := ⟨w1.heap.size, j * 2 + 1, none⟩) (cell_lt c1)).trans c1))
          all_goals
            have HBz : Hid (Below w2.heap.size w2 z) := HBy.out.trans (((show Below wr.heap.size wr ((wr.drewN nq).drew) from ⟨rfl, rfl, rfl, Nat.le_refl _, fun _ _ => rfl⟩).trans hbz).mono HBy.out.size)
            clear A Aq' hbz q0 q1 a0 a1 c0 c1 g0 heq
            go_wp2_with fail
            go_roundw
            case rel => exact ⟨j + 1, by omega, by go_num, HBz.out⟩
            case measure => simp [intOf]; omega
        · obtain rfl : N = j := by omega
          have hT : Turn (fun _ => False) w2 wr := Turn.of_below hby
          have hMy := HM.out.kept hT (fun _ _ _ h => h)
          have HMy : Hid (Mach x1.heap.size wr (x1.heap.size + 1) n S own) := hMy
          have HBy : Hid (Below w1.heap.size w1 wr) := HBL.out.trans (hby.mono HBL.out.size)
          have St := states_any _ _ _ _ _ _ hMy
          rw [HLL.out] at St
          have Tb := table_any _ _ _ _ _ _ hMy
          rw [HLL.out] at Tb
          have hPb : n * ls ≤ 255 * 4096 := Nat.mul_le_mul hn (by omega)
          obtain ⟨P, hP⟩ : ∃ P, n * ls = P := ⟨_, rfl⟩
          rw [hP] at Tb hPb
          have hPi : (n : Int) * (ls : Int) = (P : Int) := by rw [← hP]; simp
          clear hT hMy hby hP
          go_wp2_with fail
          refine St.mono ?_
          rintro e w3 ⟨rfl, aS2, ls2, cs2, rfl, hrS2, _⟩
          have e2 : ls2 = ls := own_len hrS2
          subst e2
          clear hrS2 St
          go_wp2_with fail
          refine Tb.mono ?_
          rintro e w4 ⟨rfl, aT, lT, cT, rfl, hrT⟩
          have e3 : lT = P := own_len hrT
          subst e3
          clear hrT Tb
          go_wp2_with fail
          go_ret
          exact ⟨rfl, HBy.out⟩
end Go.Proofs.Qxb6605601a
