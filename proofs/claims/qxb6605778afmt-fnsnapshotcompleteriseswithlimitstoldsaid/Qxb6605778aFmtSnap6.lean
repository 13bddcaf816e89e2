/-
  (RawSnapshot).Complete; snapshotForm.
-/
import Derived.Test.Qxb6605778aFmtSnap5
namespace Go.Proofs.Qxb6605778aFmt
open Go.RowKit Go.Deep

def kc (c : CH) : Bool := match c with | none => true | some x => sett 4096 x.2.2

theorem compl_none (m : Bool) (c md : CH) (d : DC) : compl none m c md d = (if !kc c || !kc md then false else if !(tlNo c && tlNo md && form m c md) then true else match d with | none => false | some x => sett 65536 x) := rfl

theorem complC' (p : Option Addr) (c : CH) (w : World) (h : CHp w (.pointer p) c Any) : Calls Tryf.prog 33 #[.pointer p] w fun e w' => e = .returned (.bool (kc c)) ∧ w' = w := by cases c <;> exact complC p _ w h

set_option maxRecDepth 100000 in
set_option maxHeartbeats 1000000 in
theorem compl_any (p0 p2 p3 p4 : Option Addr) (m : Bool) (t : TL) (c md : CH) (d : DC) (w : World) (h0 : TLp w (.pointer p0) t) (h2 : CHp w (.pointer p2) c Any) (h3 : CHp w (.pointer p3) md Any) (h4 : DCp w (.pointer p4) d Any) :
    Calls Tryf.prog 19 #[.agg #[.pointer p0, .bool m, .pointer p2, .pointer p3, .pointer p4]] w fun e w' => e = .returned (.bool (compl t m c md d)) ∧ Below w.heap.size w w' := by
  rcases h0 with ⟨hp, rfl⟩ | ⟨b, o, l, r, hp, c0, c1, rfl⟩
  · cases hp
    rw [compl_none]
    have hal := alB w (.cells #[.pointer none, .bool m, .pointer p2, .pointer p3, .pointer p4] 44)
    have A := complC' p2 c _ (h2.kept hal)
    have B := complC' p3 md _ (h3.kept hal)
    have S := shape_any none p2 p3 p4 m c md _ (h2.kept hal) (h3.kept hal)
    have D := h4.kept hal
    have HD : Hid (DCp (w.alloc (.cells #[.pointer none, .bool m, .pointer p2, .pointer p3, .pointer p4] 44)) (.pointer p4) d Any) := D
    have HAL : Hid (Below w.heap.size w (w.alloc (.cells #[.pointer none, .bool m, .pointer p2, .pointer p3, .pointer p4] 44))) := hal
    clear D hal h2 h3 h4
    have hlt : w.heap.size < (w.alloc (.cells #[.pointer none, .bool m, .pointer p2, .pointer p3, .pointer p4] 44)).heap.size := by simp
    cases hA : kc c
    · rw [hA] at A
      go_enter Tryf.func19, Tryf.ntmps19
      go_wp2_with (go_at_call 33; refine A.mono ?_; rintro e w1 ⟨rfl, rfl⟩)
      go_ret
      exact ⟨rfl, HAL.out⟩
    · rw [hA] at A
      cases hB : kc md
      · rw [hB] at B
        go_enter Tryf.func19, Tryf.ntmps19
        go_wp2_with fail
        refine A.mono ?_
        rintro e w1 ⟨rfl, rfl⟩
        go_wp2_with fail
        refine B.mono ?_
        rintro e w1 ⟨rfl, rfl⟩
        go_wp2_with fail
        go_ret
        exact ⟨rfl, HAL.out⟩
      · rw [hB] at B
        cases hF : (tlNo c && tlNo md && form m c md)
        · rw [hF] at S
          go_enter Tryf.func19, Tryf.ntmps19
          go_wp2_with fail
          refine A.mono ?_
          rintro e w1 ⟨rfl, rfl⟩
          go_wp2_with fail
          refine B.mono ?_
          rintro e w1 ⟨rfl, rfl⟩
          go_wp2_with fail
          refine S.mono ?_
          rintro e w2 ⟨hs, hb⟩
          rcases hs with ⟨hx, _⟩ | ⟨_, v, rfl⟩
          · cases hx
          · go_wp2_with fail
            go_ret
            exact ⟨rfl, HAL.out.trans (hb.mono HAL.out.size)⟩
        · rw [hF] at S
          go_enter Tryf.func19, Tryf.ntmps19
          go_wp2_with fail
          refine A.mono ?_
          rintro e w1 ⟨rfl, rfl⟩
          go_wp2_with fail
          refine B.mono ?_
          rintro e w1 ⟨rfl, rfl⟩
          go_wp2_with fail
          refine S.mono ?_
          rintro e w2 ⟨hs, hb⟩
          rcases hs with ⟨_, rfl⟩ | ⟨hx, _⟩
          · have y4 : w2.cell? ⟨w.heap.size, 4, none⟩ = some (.pointer p4) := cellB hb (by simp)
            have HB2 : Hid (Below w.heap.size w w2) := HAL.out.trans (hb.mono HAL.out.size)
            rcases HD.out.kept hb with ⟨hp, rfl⟩ | ⟨b, o, la, ll, lc, q, tl, hp, c0, c1, hl, ht, rfl⟩
            · cases hp
              go_wp2_with fail
              go_ret
              exact ⟨rfl, HB2.out⟩
            · cases hp
              have E := complD la ll lc q tl w2 ht
              go_wp2_with fail
              refine E.mono ?_
              rintro e w3 ⟨rfl, hb3⟩
              go_wp2_with fail
              go_ret
              exact ⟨rfl, HB2.out.trans (hb3.mono HB2.out.size)⟩
          · cases hx
  · cases hp
    go_enter Tryf.func19, Tryf.ntmps19
    go_wp2_with fail
    refine (settles_any b o l 67108864 _ (cellB (alB _ _) c0)).mono ?_
    rintro e w1 ⟨rfl, rfl⟩
    go_wp2_with fail
    go_ret
    exact ⟨rfl, alB _ _⟩

theorem form_any (p2 p3 : Option Addr) (m : Bool) (c md : CH) (w : World) (h2 : CHp w (.pointer p2) c Any) (h3 : CHp w (.pointer p3) md Any) :
    Calls Tryf.prog 24 #[.bool m, .pointer p2, .pointer p3] w fun e w' => e = .returned (.bool (form m c md)) ∧ w' = w := by
  have fin : ∀ {x y : Bool}, x = y → Ending.returned (.bool x) = .returned (.bool y) := fun h => by rw [h]
  rcases h3 with ⟨hp, rfl⟩ | ⟨b3, o3, dd3, cap3, la3, ll3, lc3, q3, tl3, hp, e0, e1, e2, e3, hl3, ht3, rfl⟩
  · cases hp
    cases m
    · go_enter Tryf.func24, Tryf.ntmps24
      go_wp2_with fail
      go_ret
      exact ⟨fin (by simp [form]), rfl⟩
    · go_enter Tryf.func24, Tryf.ntmps24
      go_wp2_with fail
      go_ret
      exact ⟨fin (by simp [form]), rfl⟩
  · cases hp
    clear hl3 ht3
    cases m
    · cases dd3
      · rcases h2 with ⟨hp, rfl⟩ | ⟨b, o, dd, cap, la, ll, lc, q, tl, hp, c0, c1, c2, c3, hl, ht, rfl⟩
        · cases hp
          go_enter Tryf.func24, Tryf.ntmps24
          go_wp2_with fail
          go_ret
          exact ⟨fin (by simp [form]), rfl⟩
        · cases hp
          clear hl ht
          cases dd
          · by_cases hcap : cap = ByteArray.empty
            · subst hcap
              go_enter Tryf.func24, Tryf.ntmps24
              go_wp2_with fail
              go_ret
              exact ⟨fin (by simp [form]), rfl⟩
            · have hcn : ¬ cap.toList = [] := ne_empty hcap
              have hcb : (cap.toList == []) = false := beq_eq_false_iff_ne.2 hcn
              go_enter Tryf.func24, Tryf.ntmps24
              go_wp2_with fail
              go_ret
              exact ⟨fin (by simp [form, hcap]), rfl⟩
          · go_enter Tryf.func24, Tryf.ntmps24
            go_wp2_with fail
            go_ret
            exact ⟨fin (by simp [form]), rfl⟩
      · go_enter Tryf.func24, Tryf.ntmps24
        go_wp2_with fail
        go_ret
        exact ⟨fin (by simp [form]), rfl⟩
    · go_enter Tryf.func24, Tryf.ntmps24
      go_wp2_with fail
      go_ret
      exact ⟨fin (by simp [form]), rfl⟩
end Go.Proofs.Qxb6605778aFmt
