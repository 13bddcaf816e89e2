/-
  FnSnapshotCompleteRisesWithLimits: the plain law and the walk.
-/
import Derived.Test.Qxb6605778aFmtSnap3
import Derived.Test.Qxb6605778aFmtSnap6
namespace Go.Proofs.Qxb6605778aFmt
open Go.RowKit Go.Deep

def only (t : TL) (m : Bool) (c md : CH) (d : DC) : Bool := t.isNone && tlNo c && tlNo md && form m c md && d.isNone

theorem sett_up (k : Int) (t : TL) : sett k (up k t) = true := by
  cases t with
  | none => rfl
  | some x =>
    simp only [up, sett]
    by_cases h : x.1 < k
    · simp [h]
    · simp [h]; omega
theorem kc_up (c : CH) : kc (upC c) = true := by
  cases c with
  | none => rfl
  | some x => exact sett_up 4096 x.2.2
theorem tlNo_up (c : CH) : tlNo (upC c) = tlNo c := by
  cases c with
  | none => rfl
  | some x =>
    obtain ⟨a, b, t⟩ := x
    cases t <;> rfl
theorem form_up (m : Bool) (c md : CH) : form m (upC c) (upC md) = form m c md := by
  cases c <;> cases md <;> rfl

theorem after_eq (t : TL) (m : Bool) (c md : CH) (d : DC) : compl (up 67108864 t) m (upC c) (upC md) (upD d) = !only t m c md d := by
  cases t with
  | some x =>
    have h := sett_up 67108864 (some x)
    simp only [sett, up] at h
    simpa [compl, up, only] using h
  | none =>
    show compl none m (upC c) (upC md) (upD d) = _
    rw [compl_none, kc_up, kc_up, tlNo_up, tlNo_up, form_up]
    unfold only
    cases h : (tlNo c && tlNo md && form m c md)
    · simp only [Option.isNone_none, Bool.true_and]
      rw [h]; rfl
    · simp only [Option.isNone_none, Bool.true_and]
      rw [h]
      cases d with
      | none => rfl
      | some x =>
        show sett 65536 (up 65536 x) = _
        rw [sett_up]; rfl

theorem before_false (t : TL) (m : Bool) (c md : CH) (d : DC) (h : only t m c md d = true) : compl t m c md d = false := by
  unfold only at h
  simp only [Bool.and_eq_true] at h
  obtain ⟨⟨⟨⟨h1, h2⟩, h3⟩, h4⟩, h5⟩ := h
  cases t with
  | some x => simp at h1
  | none =>
    cases d with
    | some x => simp at h5
    | none =>
      rw [compl_none, h2, h3, h4]
      split <;> rfl

theorem law5 (t : TL) (m : Bool) (c md : CH) (d : DC) (x y o : Bool) (hx : compl t m c md d = x) (hy : compl (up 67108864 t) m (upC c) (upC md) (upD d) = y) (ho : only t m c md d = o) : y = !o ∧ (o = true → x = false) := by
  refine ⟨?_, fun h => ?_⟩
  · rw [← hy, ← ho]; exact after_eq _ _ _ _ _
  · rw [← hx]; exact before_false _ _ _ _ _ (ho.trans h)

theorem CHp.keptIn {w w' : World} {v : Value} {c : CH} {n : Nat} (h : CHp w v c (fun lk => BytesOK w lk n)) (k : Below w.heap.size w w') : CHp w' v c (fun lk => BytesOK w' lk n) := by
  rcases h with h | ⟨b, o, d, cap, la, ll, lc, p, tl, hv, c0, c1, c2, c3, hl, ht, hc⟩
  · exact .inl h
  · exact .inr ⟨b, o, d, cap, la, ll, lc, p, tl, hv, cellB k c0, cellB k c1, cellB k c2, cellB k c3, hl.kept k, ht.kept k, hc⟩
theorem DCp.keptIn {w w' : World} {v : Value} {c : DC} {n : Nat} (h : DCp w v c (fun lk => BytesOK w lk n)) (k : Below w.heap.size w w') : DCp w' v c (fun lk => BytesOK w' lk n) := by
  rcases h with h | ⟨b, o, la, ll, lc, p, tl, hv, c0, c1, hl, ht, hc⟩
  · exact .inl h
  · exact .inr ⟨b, o, la, ll, lc, p, tl, hv, cellB k c0, cellB k c1, hl.kept k, ht.kept k, hc⟩

theorem has_any' (p : Option Addr) (c : CH) (w : World) (h : CHp w (.pointer p) c Any) : Calls Tryf.prog 23 #[.pointer p] w fun e w' => e = .returned (.bool (!tlNo c)) ∧ w' = w := by
  cases c with
  | none => exact has_any _ none w h
  | some x =>
    obtain ⟨a, b, t⟩ := x
    cases t with
    | none => exact has_any _ (some (a, b, none)) w h
    | some y => exact has_any _ (some (a, b, some y)) w h

set_option maxRecDepth 100000 in
set_option maxHeartbeats 2000000 in
theorem walk5 (p0 p2 p3 p4 : Option Addr) (m : Bool) (t : TL) (c md : CH) (d : DC) (n1 n2 n3 : Nat) (w : World) (h0 : TLp w (.pointer p0) t) (h2 : CHp w (.pointer p2) c (fun lk => BytesOK w lk n1)) (h3 : CHp w (.pointer p3) md (fun lk => BytesOK w lk n2)) (h4 : DCp w (.pointer p4) d (fun lk => BytesOK w lk n3)) :
    Calls Tryf.prog 5 #[.pointer p0, .bool m, .pointer p2, .pointer p3, .pointer p4] w fun e w' => e = .returned (.bool true) ∧ Below w.heap.size w w' := by
  have Z := zz_any p0 p2 p3 p4 (.bool m) t c md d n1 n2 n3 w h0 h2 h3 h4
  have H0 : Hid (TLp w (.pointer p0) t) := h0
  have H2 : Hid (CHp w (.pointer p2) c (fun lk => BytesOK w lk n1)) := h2
  have H3 : Hid (CHp w (.pointer p3) md (fun lk => BytesOK w lk n2)) := h3
  have H4 : Hid (DCp w (.pointer p4) d (fun lk => BytesOK w lk n3)) := h4
  clear h0 h2 h3 h4
  go_enter Tryf.func5, Tryf.ntmps5
  go_wp2_with fail
  refine Z.mono ?_
  rintro e w1 ⟨b, rfl, rfl, hb⟩
  cases b
  · go_wp2_with fail
    go_ret
    exact ⟨rfl, Below.refl _ _⟩
  obtain ⟨s0, s2, s3, s4⟩ := hb rfl
  have S2 : Hid (chS c n1) := s2
  have S3 : Hid (chS md n2) := s3
  have S4 : Hid (dcS d n3) := s4
  clear hb s2 s3 s4 Z
  go_wp2_with fail
  refine (tlb_any _ t _ H0.out).mono ?_
  rintro e w1 ⟨rfl, rfl⟩
  go_wp2_with fail
  refine (chb_any _ c _ n1 H2.out S2.out).mono ?_
  rintro e x1 ⟨k1, rfl, hk1, hk1', b1⟩
  go_wp2_with fail
  refine (chb_any _ md _ n2 (H3.out.keptIn b1) S3.out).mono ?_
  rintro e x2 ⟨k2, rfl, hk2, hk2', b2⟩
  have B2 := b1.trans (b2.mono b1.size)
  go_wp2_with fail
  refine (dcb_any _ d _ n3 (H4.out.keptIn B2) S4.out).mono ?_
  rintro e x3 ⟨k3, rfl, hk3, hk3', b3⟩
  have B3 := B2.trans (b3.mono B2.size)
  by_cases hbig : (1048576 : Int) < (tlLen t : Int) + k1 + k2 + k3
  · go_wp2_with fail
    go_ret
    exact ⟨rfl, B3⟩
  go_wp2_with fail
  refine (copyTL _ t _ (H0.out.kept B3)).mono ?_
  rintro e y1 ⟨q0, rfl, T0, c1⟩
  have C1 := B3.trans (c1.mono B3.size)
  go_wp2_with fail
  refine (copyCH _ c _ n1 (H2.out.keptIn C1) S2.out).mono ?_
  rintro e y2 ⟨q2, rfl, T2, c2⟩
  have C2 := C1.trans (c2.mono C1.size)
  go_wp2_with fail
  refine (copyCH _ md _ n2 (H3.out.keptIn C2) S3.out).mono ?_
  rintro e y3 ⟨q3, rfl, T3, c3⟩
  have C3 := C2.trans (c3.mono C2.size)
  go_wp2_with fail
  refine (copyDC _ d _ n3 (H4.out.keptIn C3) S4.out).mono ?_
  rintro e y4 ⟨q4, rfl, T4, c4⟩
  have C4 := C3.trans (c4.mono C3.size)
  have U0 := ((T0.kept c2).kept c3).kept c4
  have U2 := (T2.kept c3).kept c4
  have U3 := T3.kept c4
  have HB4 : Hid (Below w1.heap.size w1 y4) := C4
  have V0 : Hid (TLp y4 (.pointer q0) t) := U0
  have V2 : Hid (CHp y4 (.pointer q2) c Any) := U2
  have V3 : Hid (CHp y4 (.pointer q3) md Any) := U3
  have V4 : Hid (DCp y4 (.pointer q4) d Any) := T4
  clear T0 T2 T3 T4 U0 U2 U3 c1 c2 c3 c4 C1 C2 C3 C4 b1 b2 b3 B2 B3 H0 H2 H3 H4 S2 S3 S4
  go_wp2_with fail
  refine (toSnap q0 q2 q3 q4 m t c md d y4 V0.out V2.out V3.out V4.out).mono ?_
  rintro e z1 ⟨r0, r2, r3, r4, rfl, R0, R2, R3, R4, d1⟩
  go_wp2_with fail
  refine (compl_any r0 r2 r3 r4 m t c md d z1 R0 R2 R3 R4).mono ?_
  rintro e z2 ⟨rfl, d2⟩
  have D2 := d1.trans (d2.mono d1.size)
  generalize hX : compl t m c md d = X
  have HX : Hid (compl t m c md d = X) := hX
  clear R0 R2 R3 R4 d1 d2 hX
  go_wp2_with fail
  refine (raiseTL 67108864 _ t _ (V0.out.kept D2)).mono ?_
  rintro e z3 ⟨r0, rfl, R0, d3⟩
  have D3 := D2.trans (d3.mono D2.size)
  go_wp2_with fail
  refine (raiseCH _ c _ (V2.out.kept D3)).mono ?_
  rintro e z4 ⟨r2, rfl, R2, d4⟩
  have D4 := D3.trans (d4.mono D3.size)
  go_wp2_with fail
  refine (raiseCH _ md _ (V3.out.kept D4)).mono ?_
  rintro e z5 ⟨r3, rfl, R3, d5⟩
  have D5 := D4.trans (d5.mono D4.size)
  go_wp2_with fail
  refine (raiseDC _ d _ (V4.out.kept D5)).mono ?_
  rintro e z6 ⟨r4, rfl, R4, d6⟩
  have D6 := D5.trans (d6.mono D5.size)
  have R0' := ((R0.kept d4).kept d5).kept d6
  have R2' := (R2.kept d5).kept d6
  have R3' := R3.kept d6
  clear D2 D3 D4 D5 d3 d4 d5 d6 R0 R2 R3
  go_wp2_with fail
  refine (toSnap r0 r2 r3 r4 m _ _ _ _ z6 R0' R2' R3' R4).mono ?_
  rintro e z7 ⟨s0, s2, s3, s4, rfl, P0, P2, P3, P4, d7⟩
  have D7 := D6.trans (d7.mono D6.size)
  go_wp2_with fail
  refine (compl_any s0 s2 s3 s4 m _ _ _ _ z7 P0 P2 P3 P4).mono ?_
  rintro e z8 ⟨rfl, d8⟩
  have D8 := D7.trans (d8.mono D7.size)
  generalize hY : compl (up 67108864 t) m (upC c) (upC md) (upD d) = Y
  have HY : Hid (compl (up 67108864 t) m (upC c) (upC md) (upD d) = Y) := hY
  have HB : Hid (Below w1.heap.size w1 z8) := HB4.out.trans (D8.mono HB4.out.size)
  have A2 := has_any' q2 c z8 (V2.out.kept D8)
  have A3 := has_any' q3 md z8 (V3.out.kept D8)
  have A4 := form_any q2 q3 m c md z8 (V2.out.kept D8) (V3.out.kept D8)
  have V0' := V0.out
  have V4' := V4.out
  clear hY D6 D7 D8 d7 d8 P0 P2 P3 P4 R0' R2' R3' R4 V0 V2 V3 V4 HB4
  rcases V0' with ⟨hp, rfl⟩ | ⟨b, o, l, r, hp, _, _, rfl⟩
  · cases hp
    cases hc : tlNo c
    · have HO : only none m c md d = false := by simp [only, hc]
      rw [hc] at A2
      go_wp2_with fail
      refine A2.mono ?_
      rintro e w2 ⟨rfl, rfl⟩
      have hY : Y = true := (law5 none m c md d X Y _ HX.out HY.out HO).1
      clear HO HX HY
      subst hY
      cases X
      all_goals (go_wp2_with fail; go_ret; exact ⟨rfl, HB.out⟩)
    · rw [hc] at A2
      cases hd : tlNo md
      · have HO : only none m c md d = false := by simp [only, hd]
        rw [hd] at A3
        go_wp2_with fail
        refine A2.mono ?_
        rintro e w2 ⟨rfl, rfl⟩
        go_wp2_with fail
        refine A3.mono ?_
        rintro e w2 ⟨rfl, rfl⟩
        have hY : Y = true := (law5 none m c md d X Y _ HX.out HY.out HO).1
        clear HO HX HY
        subst hY
        cases X
        all_goals (go_wp2_with fail; go_ret; exact ⟨rfl, HB.out⟩)
      · rw [hd] at A3
        cases hf : form m c md
        · have HO : only none m c md d = false := by simp [only, hf]
          rw [hf] at A4
          go_wp2_with fail
          refine A2.mono ?_
          rintro e w2 ⟨rfl, rfl⟩
          go_wp2_with fail
          refine A3.mono ?_
          rintro e w2 ⟨rfl, rfl⟩
          go_wp2_with fail
          refine A4.mono ?_
          rintro e w2 ⟨rfl, rfl⟩
          have hY : Y = true := (law5 none m c md d X Y _ HX.out HY.out HO).1
          clear HO HX HY
          subst hY
          cases X
          all_goals (go_wp2_with fail; go_ret; exact ⟨rfl, HB.out⟩)
        · rw [hf] at A4
          rcases V4' with ⟨hp, rfl⟩ | ⟨b, o, la, ll, lc, p, tl, hp, _, _, _, _, rfl⟩
          · cases hp
            have HO : only none m c md none = true := by simp [only, hc, hd, hf]
            go_wp2_with fail
            refine A2.mono ?_
            rintro e w2 ⟨rfl, rfl⟩
            go_wp2_with fail
            refine A3.mono ?_
            rintro e w2 ⟨rfl, rfl⟩
            go_wp2_with fail
            refine A4.mono ?_
            rintro e w2 ⟨rfl, rfl⟩
            have hL := law5 none m c md none X Y _ HX.out HY.out HO
            have hY : Y = false := hL.1
            have hX : X = false := hL.2 rfl
            clear hL HO HX HY
            subst hX; subst hY
            go_wp2_with fail
            go_ret
            exact ⟨rfl, HB.out⟩
          · cases hp
            have HO : only none m c md (some tl) = false := by simp [only]
            go_wp2_with fail
            refine A2.mono ?_
            rintro e w2 ⟨rfl, rfl⟩
            go_wp2_with fail
            refine A3.mono ?_
            rintro e w2 ⟨rfl, rfl⟩
            go_wp2_with fail
            refine A4.mono ?_
            rintro e w2 ⟨rfl, rfl⟩
            have hY : Y = true := (law5 none m c md (some tl) X Y _ HX.out HY.out HO).1
            clear HO HX HY
            subst hY
            cases X
            all_goals (go_wp2_with fail; go_ret; exact ⟨rfl, HB.out⟩)
  · cases hp
    have HO : only (some (l, r)) m c md d = false := by simp [only]
    have hY : Y = true := (law5 (some (l, r)) m c md d X Y _ HX.out HY.out HO).1
    clear HO HX HY
    subst hY
    cases X
    all_goals (go_wp2_with fail; go_ret; exact ⟨rfl, HB.out⟩)
end Go.Proofs.Qxb6605778aFmt
