/-
  (RawSnapshot).shape.
-/
import Derived.Test.Qxb6605778aFmtSnap4
import Derived.Deep.QuietTactic
import Derived.BigQuiet
import Derived.Lib.SlicesS
namespace Go.Proofs.Qxb6605778aFmt
open Go.RowKit Go.Deep

theorem al2 (w : World) (o1 o2 : Obj) : Below w.heap.size w ((w.alloc o1).alloc o2) := (alB w o1).trans ((alB _ _).mono (by simp))
theorem al2q (w : World) (o1 o2 : Obj) (n : Nat) : Below w.heap.size w (((w.alloc o1).alloc o2).drewN n) := (al2 w o1 o2).trans ⟨rfl, rfl, rfl, Nat.le_refl _, fun _ _ => rfl⟩
theorem fin2 {w w1 : World} {o1 o2 : Obj} (h : Below ((w.alloc o1).alloc o2).heap.size ((w.alloc o1).alloc o2) w1) : Below w.heap.size w w1 := (al2 w o1 o2).trans (h.mono (al2 w o1 o2).size)
theorem fin2q {w w1 : World} {o1 o2 : Obj} {n : Nat} (h : Below (((w.alloc o1).alloc o2).drewN n).heap.size (((w.alloc o1).alloc o2).drewN n) w1) : Below w.heap.size w w1 := (al2q w o1 o2 n).trans (h.mono (al2q w o1 o2 n).size)
theorem ne_empty {s : ByteArray} (h : ¬ s = ByteArray.empty) : ¬ s.toList = [] := fun e => h ((Lib.bytes_beq_iff s ByteArray.empty).1 (by rw [e]; simp))

set_option maxRecDepth 100000 in
set_option maxHeartbeats 1000000 in
theorem shape_any (p0 p2 p3 p4 : Option Addr) (m : Bool) (c md : CH) (w : World) (h2 : CHp w (.pointer p2) c Any) (h3 : CHp w (.pointer p3) md Any) :
    Calls Tryf.prog 34 #[.agg #[.pointer p0, .bool m, .pointer p2, .pointer p3, .pointer p4]] w fun e w' => ((tlNo c && tlNo md && form m c md) = true ∧ e = .returned .nilIface ∨ (tlNo c && tlNo md && form m c md) = false ∧ ∃ v, e = .returned (.iface 86 (.pointer v))) ∧ Below w.heap.size w w' := by
  rcases h2 with ⟨hp, rfl⟩ | ⟨b, o, dd, cap, la, ll, lc, q, tl, hp, c0, c1, c2, c3, hl, ht, rfl⟩
  · cases hp
    rcases h3 with ⟨hp, rfl⟩ | ⟨b3, o3, dd3, cap3, la3, ll3, lc3, q3, tl3, hp, e0, e1, e2, e3, hl3, ht3, rfl⟩
    · cases hp
      cases m
      · go_enter Tryf.func34, Tryf.ntmps34
        go_wp2_with fail
        refine wp_loop_rounds 3 ?_
        rw [rounds_succ]
        go_wp2_with fail
        rw [rounds_succ]
        go_wp2_with fail
        rw [rounds_succ]
        go_wp2_with fail
        go_quiet (fail)
        go_wp2_with fail
        refine (notSnap_any _).mono ?_
        rintro e w1 ⟨v, rfl, hb⟩
        go_wp2_with fail
        go_ret
        exact ⟨.inr ⟨by simp [tlNo, form, *], v, rfl⟩, fin2q hb⟩
      · go_enter Tryf.func34, Tryf.ntmps34
        go_wp2_with fail
        refine wp_loop_rounds 3 ?_
        rw [rounds_succ]
        go_wp2_with fail
        rw [rounds_succ]
        go_wp2_with fail
        rw [rounds_succ]
        go_wp2_with fail
        go_quiet (fail)
        go_wp2_with fail
        refine (notSnap_any _).mono ?_
        rintro e w1 ⟨v, rfl, hb⟩
        go_wp2_with fail
        go_ret
        exact ⟨.inr ⟨by simp [tlNo, form, *], v, rfl⟩, fin2q hb⟩
    · cases hp
      clear hl3
      have e0' : ∀ o1 o2, ((w.alloc o1).alloc o2).cell? ⟨b3, o3, none⟩ = some (.bool dd3) := fun o1 o2 => cellB (al2 _ _ _) e0
      have e1' : ∀ o1 o2, ((w.alloc o1).alloc o2).cell? ⟨b3, o3 + 1, none⟩ = some (.string cap3) := fun o1 o2 => cellB (al2 _ _ _) e1
      have e2' : ∀ o1 o2, ((w.alloc o1).alloc o2).cell? ⟨b3, o3 + 2, none⟩ = some (.slice la3 ll3 lc3) := fun o1 o2 => cellB (al2 _ _ _) e2
      have e3' : ∀ o1 o2, ((w.alloc o1).alloc o2).cell? ⟨b3, o3 + 3, none⟩ = some (.pointer q3) := fun o1 o2 => cellB (al2 _ _ _) e3
      rcases ht3 with ⟨hq, rfl⟩ | ⟨b', o', l, r, hq, q0, q1, rfl⟩
      · cases hq
        cases m
        · cases dd3
          · go_enter Tryf.func34, Tryf.ntmps34
            go_wp2_with fail
            refine wp_loop_rounds 3 ?_
            rw [rounds_succ]
            go_wp2_with fail
            rw [rounds_succ]
            go_wp2_with fail
            rw [rounds_succ]
            go_wp2_with fail
            go_quiet (fail)
            go_wp2_with fail
            go_ret
            exact ⟨.inl ⟨by simp [tlNo, form, *], rfl⟩, al2q _ _ _ _⟩
          · go_enter Tryf.func34, Tryf.ntmps34
            go_wp2_with fail
            refine wp_loop_rounds 3 ?_
            rw [rounds_succ]
            go_wp2_with fail
            rw [rounds_succ]
            go_wp2_with fail
            rw [rounds_succ]
            go_wp2_with fail
            go_quiet (fail)
            go_wp2_with fail
            refine (notSnap_any _).mono ?_
            rintro e w1 ⟨v, rfl, hb⟩
            go_wp2_with fail
            go_ret
            exact ⟨.inr ⟨by simp [tlNo, form, *], v, rfl⟩, fin2q hb⟩
        · go_enter Tryf.func34, Tryf.ntmps34
          go_wp2_with fail
          refine wp_loop_rounds 3 ?_
          rw [rounds_succ]
          go_wp2_with fail
          rw [rounds_succ]
          go_wp2_with fail
          rw [rounds_succ]
          go_wp2_with fail
          go_quiet (fail)
          go_wp2_with fail
          refine (notSnap_any _).mono ?_
          rintro e w1 ⟨v, rfl, hb⟩
          go_wp2_with fail
          go_ret
          exact ⟨.inr ⟨by simp [tlNo, form, *], v, rfl⟩, fin2q hb⟩
      · cases hq
        have q0' : ∀ o1 o2, ((w.alloc o1).alloc o2).cell? ⟨b', o', none⟩ = some (.int .i64 l) := fun o1 o2 => cellB (al2 _ _ _) q0
        have q1' : ∀ o1 o2, ((w.alloc o1).alloc o2).cell? ⟨b', o' + 1, none⟩ = some (.string r) := fun o1 o2 => cellB (al2 _ _ _) q1
        go_enter Tryf.func34, Tryf.ntmps34
        go_wp2_with fail
        refine wp_loop_rounds 3 ?_
        rw [rounds_succ]
        go_wp2_with fail
        rw [rounds_succ]
        go_wp2_with fail
        refine (refusal_any b' o' r _ (by simp [*])).mono ?_
        rintro e w1 ⟨v, rfl, hb⟩
        go_wp2_with fail
        go_ret
        exact ⟨.inr ⟨by simp [tlNo], v, rfl⟩, fin2 hb⟩
  · cases hp
    clear hl
    have c0' : ∀ o1 o2, ((w.alloc o1).alloc o2).cell? ⟨b, o, none⟩ = some (.bool dd) := fun o1 o2 => cellB (al2 _ _ _) c0
    have c1' : ∀ o1 o2, ((w.alloc o1).alloc o2).cell? ⟨b, o + 1, none⟩ = some (.string cap) := fun o1 o2 => cellB (al2 _ _ _) c1
    have c2' : ∀ o1 o2, ((w.alloc o1).alloc o2).cell? ⟨b, o + 2, none⟩ = some (.slice la ll lc) := fun o1 o2 => cellB (al2 _ _ _) c2
    have c3' : ∀ o1 o2, ((w.alloc o1).alloc o2).cell? ⟨b, o + 3, none⟩ = some (.pointer q) := fun o1 o2 => cellB (al2 _ _ _) c3
    rcases ht with ⟨hq, rfl⟩ | ⟨b', o', l, r, hq, q0, q1, rfl⟩
    · cases hq
      rcases h3 with ⟨hp, rfl⟩ | ⟨b3, o3, dd3, cap3, la3, ll3, lc3, q3, tl3, hp, e0, e1, e2, e3, hl3, ht3, rfl⟩
      · cases hp
        cases m
        · cases dd
          · by_cases hcap : cap = ByteArray.empty
            · subst hcap
              go_enter Tryf.func34, Tryf.ntmps34
              go_wp2_with fail
              refine wp_loop_rounds 3 ?_
              rw [rounds_succ]
              go_wp2_with fail
              rw [rounds_succ]
              go_wp2_with fail
              rw [rounds_succ]
              go_wp2_with fail
              go_quiet (fail)
              go_wp2_with fail
              refine (notSnap_any _).mono ?_
              rintro e w1 ⟨v, rfl, hb⟩
              go_wp2_with fail
              go_ret
              exact ⟨.inr ⟨by simp [tlNo, form, *], v, rfl⟩, fin2q hb⟩
            · have hcn : ¬ cap.toList = [] := ne_empty hcap
              have hcb : (cap.toList == []) = false := beq_eq_false_iff_ne.2 hcn
              go_enter Tryf.func34, Tryf.ntmps34
              go_wp2_with fail
              refine wp_loop_rounds 3 ?_
              rw [rounds_succ]
              go_wp2_with fail
              rw [rounds_succ]
              go_wp2_with fail
              rw [rounds_succ]
              go_wp2_with fail
              go_quiet (fail)
              go_wp2_with fail
              refine (notSnap_any _).mono ?_
              rintro e w1 ⟨v, rfl, hb⟩
              go_wp2_with fail
              go_ret
              exact ⟨.inr ⟨by simp [tlNo, form, *], v, rfl⟩, fin2q hb⟩
          · go_enter Tryf.func34, Tryf.ntmps34
            go_wp2_with fail
            refine wp_loop_rounds 3 ?_
            rw [rounds_succ]
            go_wp2_with fail
            rw [rounds_succ]
            go_wp2_with fail
            rw [rounds_succ]
            go_wp2_with fail
            go_quiet (fail)
            go_wp2_with fail
            refine (notSnap_any _).mono ?_
            rintro e w1 ⟨v, rfl, hb⟩
            go_wp2_with fail
            go_ret
            exact ⟨.inr ⟨by simp [tlNo, form, *], v, rfl⟩, fin2q hb⟩
        · go_enter Tryf.func34, Tryf.ntmps34
          go_wp2_with fail
          refine wp_loop_rounds 3 ?_
          rw [rounds_succ]
          go_wp2_with fail
          rw [rounds_succ]
          go_wp2_with fail
          rw [rounds_succ]
          go_wp2_with fail
          go_quiet (fail)
          go_wp2_with fail
          refine (notSnap_any _).mono ?_
          rintro e w1 ⟨v, rfl, hb⟩
          go_wp2_with fail
          go_ret
          exact ⟨.inr ⟨by simp [tlNo, form, *], v, rfl⟩, fin2q hb⟩
      · cases hp
        clear hl3
        have e0' : ∀ o1 o2, ((w.alloc o1).alloc o2).cell? ⟨b3, o3, none⟩ = some (.bool dd3) := fun o1 o2 => cellB (al2 _ _ _) e0
        have e1' : ∀ o1 o2, ((w.alloc o1).alloc o2).cell? ⟨b3, o3 + 1, none⟩ = some (.string cap3) := fun o1 o2 => cellB (al2 _ _ _) e1
        have e2' : ∀ o1 o2, ((w.alloc o1).alloc o2).cell? ⟨b3, o3 + 2, none⟩ = some (.slice la3 ll3 lc3) := fun o1 o2 => cellB (al2 _ _ _) e2
        have e3' : ∀ o1 o2, ((w.alloc o1).alloc o2).cell? ⟨b3, o3 + 3, none⟩ = some (.pointer q3) := fun o1 o2 => cellB (al2 _ _ _) e3
        rcases ht3 with ⟨hq, rfl⟩ | ⟨b', o', l, r, hq, q0, q1, rfl⟩
        · cases hq
          cases m
          · cases dd
            · by_cases hcap : cap = ByteArray.empty
              · subst hcap
                go_enter Tryf.func34, Tryf.ntmps34
                go_wp2_with fail
                refine wp_loop_rounds 3 ?_
                rw [rounds_succ]
                go_wp2_with fail
                rw [rounds_succ]
                go_wp2_with fail
                rw [rounds_succ]
                go_wp2_with fail
                go_quiet (fail)
                go_wp2_with fail
                refine (notSnap_any _).mono ?_
                rintro e w1 ⟨v, rfl, hb⟩
                go_wp2_with fail
                go_ret
                exact ⟨.inr ⟨by simp [tlNo, form, *], v, rfl⟩, fin2q hb⟩
              · have hcn : ¬ cap.toList = [] := ne_empty hcap
                have hcb : (cap.toList == []) = false := beq_eq_false_iff_ne.2 hcn
                cases dd3
                · go_enter Tryf.func34, Tryf.ntmps34
                  go_wp2_with fail
                  refine wp_loop_rounds 3 ?_
                  rw [rounds_succ]
                  go_wp2_with fail
                  rw [rounds_succ]
                  go_wp2_with fail
                  rw [rounds_succ]
                  go_wp2_with fail
                  go_quiet (fail)
                  go_wp2_with fail
                  go_ret
                  exact ⟨.inl ⟨by simp [tlNo, form, *], rfl⟩, al2q _ _ _ _⟩
                · go_enter Tryf.func34, Tryf.ntmps34
                  go_wp2_with fail
                  refine wp_loop_rounds 3 ?_
                  rw [rounds_succ]
                  go_wp2_with fail
                  rw [rounds_succ]
                  go_wp2_with fail
                  rw [rounds_succ]
                  go_wp2_with fail
                  go_quiet (fail)
                  go_wp2_with fail
                  refine (notSnap_any _).mono ?_
                  rintro e w1 ⟨v, rfl, hb⟩
                  go_wp2_with fail
                  go_ret
                  exact ⟨.inr ⟨by simp [tlNo, form, *], v, rfl⟩, fin2q hb⟩
            · go_enter Tryf.func34, Tryf.ntmps34
              go_wp2_with fail
              refine wp_loop_rounds 3 ?_
              rw [rounds_succ]
              go_wp2_with fail
              rw [rounds_succ]
              go_wp2_with fail
              rw [rounds_succ]
              go_wp2_with fail
              go_quiet (fail)
              go_wp2_with fail
              refine (notSnap_any _).mono ?_
              rintro e w1 ⟨v, rfl, hb⟩
              go_wp2_with fail
              go_ret
              exact ⟨.inr ⟨by simp [tlNo, form, *], v, rfl⟩, fin2q hb⟩
          · go_enter Tryf.func34, Tryf.ntmps34
            go_wp2_with fail
            refine wp_loop_rounds 3 ?_
            rw [rounds_succ]
            go_wp2_with fail
            rw [rounds_succ]
            go_wp2_with fail
            rw [rounds_succ]
            go_wp2_with fail
            go_quiet (fail)
            go_wp2_with fail
            refine (notSnap_any _).mono ?_
            rintro e w1 ⟨v, rfl, hb⟩
            go_wp2_with fail
            go_ret
            exact ⟨.inr ⟨by simp [tlNo, form, *], v, rfl⟩, fin2q hb⟩
        · cases hq
          have q0' : ∀ o1 o2, ((w.alloc o1).alloc o2).cell? ⟨b', o', none⟩ = some (.int .i64 l) := fun o1 o2 => cellB (al2 _ _ _) q0
          have q1' : ∀ o1 o2, ((w.alloc o1).alloc o2).cell? ⟨b', o' + 1, none⟩ = some (.string r) := fun o1 o2 => cellB (al2 _ _ _) q1
          go_enter Tryf.func34, Tryf.ntmps34
          go_wp2_with fail
          refine wp_loop_rounds 3 ?_
          rw [rounds_succ]
          go_wp2_with fail
          rw [rounds_succ]
          go_wp2_with fail
          refine (refusal_any b' o' r _ (by simp [*])).mono ?_
          rintro e w1 ⟨v, rfl, hb⟩
          go_wp2_with fail
          go_ret
          exact ⟨.inr ⟨by simp [tlNo], v, rfl⟩, fin2 hb⟩
    · cases hq
      clear h3
      have q0' : ∀ o1 o2, ((w.alloc o1).alloc o2).cell? ⟨b', o', none⟩ = some (.int .i64 l) := fun o1 o2 => cellB (al2 _ _ _) q0
      have q1' : ∀ o1 o2, ((w.alloc o1).alloc o2).cell? ⟨b', o' + 1, none⟩ = some (.string r) := fun o1 o2 => cellB (al2 _ _ _) q1
      go_enter Tryf.func34, Tryf.ntmps34
      go_wp2_with fail
      refine wp_loop_rounds 3 ?_
      rw [rounds_succ]
      go_wp2_with fail
      refine (refusal_any b' o' r _ (by simp [*])).mono ?_
      rintro e w1 ⟨v, rfl, hb⟩
      go_wp2_with fail
      go_ret
      exact ⟨.inr ⟨by simp [tlNo], v, rfl⟩, fin2 hb⟩
end Go.Proofs.Qxb6605778aFmt
