/-
  Children and documents: copied, turned, raised.
-/
import Derived.Test.Qxb6605778aFmtSnap1
import Derived.Deep.RegionHeld3
namespace Go.Proofs.Qxb6605778aFmt
open Go.RowKit Go.Deep

abbrev Any : Value → Prop := fun _ => True

def chS (c : CH) (n : Nat) : Prop := match c with | none => True | some x => x.2.1.size ≤ 1048576 ∧ n ≤ 1048576 ∧ tlLen x.2.2 ≤ 1048576
def dcS (c : DC) (n : Nat) : Prop := match c with | none => True | some x => n ≤ 1048576 ∧ tlLen x ≤ 1048576

theorem box4 (w w0 : World) (T : TypeId) (d : Bool) (cap : ByteArray) (la : Option Addr) (ll lc : Nat) (p : Option Addr) (tl : TL) (h : TLp w0 (.pointer p) tl) (k : Below w0.heap.size w0 w) : CHp (w.alloc (.cells #[.bool d, .string cap, .slice la ll lc, .pointer p] T)) (.pointer (some ⟨w.heap.size, 0, none⟩)) (some (d, cap, tl)) Any :=
  .inr ⟨_, _, d, cap, la, ll, lc, p, tl, rfl, by simp, by simp, by simp, by simp, trivial, (h.kept k).kept ((Below.refl _ _).alloc (Nat.le_refl _) _), rfl⟩

theorem boxd (w w0 : World) (T : TypeId) (la : Option Addr) (ll lc : Nat) (p : Option Addr) (tl : TL) (h : TLp w0 (.pointer p) tl) (k : Below w0.heap.size w0 w) : DCp (w.alloc (.cells #[.slice la ll lc, .pointer p] T)) (.pointer (some ⟨w.heap.size, 0, none⟩)) (some tl) Any :=
  .inr ⟨_, _, la, ll, lc, p, tl, rfl, by simp, by simp, trivial, (h.kept k).kept ((Below.refl _ _).alloc (Nat.le_refl _) _), rfl⟩

theorem alB (w : World) (o : Obj) : Below w.heap.size w (w.alloc o) := (Below.refl _ _).alloc (Nat.le_refl _) _

theorem finB {w w1 w2 : World} (h : Below w.heap.size w w1) (k : Below w1.heap.size w1 w2) (o : Obj) : Below w.heap.size w (w2.alloc o) :=
  (h.trans (k.mono h.size)).trans ((alB _ _).mono (Nat.le_trans h.size k.size))

set_option maxRecDepth 100000 in
set_option maxHeartbeats 1000000 in
theorem copyCH (v : Value) (c : CH) (w : World) (n : Nat) (h : CHp w v c (fun lk => BytesOK w lk n)) (hs : chS c n) : Calls Tryf.prog 16 #[v] w fun e w' => ∃ p, e = .returned (.pointer p) ∧ CHp w' (.pointer p) c Any ∧ Below w.heap.size w w' := by
  rcases h with ⟨rfl, rfl⟩ | ⟨b, o, d, cap, la, ll, lc, p, tl, rfl, c0, c1, c2, c3, hl, ht, rfl⟩
  · go_enter Tryf.func16, Tryf.ntmps16
    go_wp2
    go_ret
    exact ⟨_, rfl, .inl ⟨rfl, rfl⟩, Below.refl _ _⟩
  · have hn : n ≤ 1048576 := hs.2.1
    clear hs
    have HL : Hid (BytesOK w (.slice la ll lc) n) := hl
    have HT : Hid (TLp w (.pointer p) tl) := ht
    clear hl ht
    have A28 := clone_any (.slice la ll lc) n w.drew HL.out hn
    have A15 := copyTL (.pointer p) tl w.drew HT.out
    have hd : Below w.heap.size w w.drew := (Below.refl _ _).drew
    go_enter Tryf.func16, Tryf.ntmps16
    go_wp2_with fail
    go_region_held3 (fun w' => w'.cell? ⟨b, o, none⟩ = some (.bool d) ∧ w'.cell? ⟨b, o + 1, none⟩ = some (.string cap) ∧ w'.cell? ⟨b, o + 2, none⟩ = some (.slice la ll lc) ∧ w'.cell? ⟨b, o + 3, none⟩ = some (.pointer p)) (first | exact ⟨cellB (alB _ _) (by assumption), cellB (alB _ _) (by assumption), cellB (alB _ _) (by assumption), cellB (alB _ _) (by assumption)⟩ | simp [*])
      (first
        | (go_at_call 28; (first | with_reducible refine A28.mono ?_ | with_reducible refine B28.mono ?_); rintro e w1 ⟨a1, l1, k1, rfl, hb1⟩; (first | (have q0 := cellB hb1 c0; have q1 := cellB hb1 c1; have q2 := cellB hb1 c2; have q3 := cellB hb1 c3; have B15 := copyTL (.pointer p) tl w1 (TLp.kept (w := w.drew) HT.out hb1); have Hb := hd.trans hb1) | (have q0 := cellB hb1 p0; have q1 := cellB hb1 p1; have q2 := cellB hb1 p2; have q3 := cellB hb1 p3)))
        | (go_at_call 15; (first | with_reducible refine A15.mono ?_ | with_reducible refine B15.mono ?_); rintro e w2 ⟨y2, rfl, ht2, hb2⟩; (first | (have p0 := cellB hb2 c0; have p1 := cellB hb2 c1; have p2 := cellB hb2 c2; have p3 := cellB hb2 c3; have B28 := clone_any (.slice la ll lc) n w2 (BytesOK.kept (w := w.drew) HL.out hb2) hn; have Hb := hd.trans hb2) | (have p0 := cellB hb2 q0; have p1 := cellB hb2 q1; have p2 := cellB hb2 q2; have p3 := cellB hb2 q3))))
    all_goals go_wp2_with fail
    all_goals go_ret
    all_goals first
      | exact ⟨_, rfl, box4 w2 w2 _ d cap _ _ _ _ tl ht2 (Below.refl _ _), finB Hb hb2 _⟩
      | exact ⟨_, rfl, box4 w1 w2 _ d cap _ _ _ _ tl ht2 hb1, finB Hb hb1 _⟩

set_option maxRecDepth 100000 in
set_option maxHeartbeats 1000000 in
theorem copyDC (v : Value) (c : DC) (w : World) (n : Nat) (h : DCp w v c (fun lk => BytesOK w lk n)) (hs : dcS c n) : Calls Tryf.prog 17 #[v] w fun e w' => ∃ p, e = .returned (.pointer p) ∧ DCp w' (.pointer p) c Any ∧ Below w.heap.size w w' := by
  rcases h with ⟨rfl, rfl⟩ | ⟨b, o, la, ll, lc, p, tl, rfl, c0, c1, hl, ht, rfl⟩
  · go_enter Tryf.func17, Tryf.ntmps17
    go_wp2
    go_ret
    exact ⟨_, rfl, .inl ⟨rfl, rfl⟩, Below.refl _ _⟩
  · have hn : n ≤ 1048576 := hs.1
    clear hs
    have HL : Hid (BytesOK w (.slice la ll lc) n) := hl
    have HT : Hid (TLp w (.pointer p) tl) := ht
    clear hl ht
    have A28 := clone_any (.slice la ll lc) n w.drew HL.out hn
    have A15 := copyTL (.pointer p) tl w.drew HT.out
    have hd : Below w.heap.size w w.drew := (Below.refl _ _).drew
    go_enter Tryf.func17, Tryf.ntmps17
    go_wp2_with fail
    go_region_held3 (fun w' => w'.cell? ⟨b, o, none⟩ = some (.slice la ll lc) ∧ w'.cell? ⟨b, o + 1, none⟩ = some (.pointer p)) (first | exact ⟨cellB (alB _ _) (by assumption), cellB (alB _ _) (by assumption)⟩ | simp [*])
      (first
        | (go_at_call 28; (first | with_reducible refine A28.mono ?_ | with_reducible refine B28.mono ?_); rintro e w1 ⟨a1, l1, k1, rfl, hb1⟩; (first | (have q0 := cellB hb1 c0; have q1 := cellB hb1 c1; have B15 := copyTL (.pointer p) tl w1 (TLp.kept (w := w.drew) HT.out hb1); have Hb := hd.trans hb1) | (have q0 := cellB hb1 p0; have q1 := cellB hb1 p1)))
        | (go_at_call 15; (first | with_reducible refine A15.mono ?_ | with_reducible refine B15.mono ?_); rintro e w2 ⟨y2, rfl, ht2, hb2⟩; (first | (have p0 := cellB hb2 c0; have p1 := cellB hb2 c1; have B28 := clone_any (.slice la ll lc) n w2 (BytesOK.kept (w := w.drew) HL.out hb2) hn; have Hb := hd.trans hb2) | (have p0 := cellB hb2 q0; have p1 := cellB hb2 q1))))
    all_goals go_wp2_with fail
    all_goals go_ret
    all_goals first
      | exact ⟨_, rfl, boxd w2 w2 _ _ _ _ _ tl ht2 (Below.refl _ _), finB Hb hb2 _⟩
      | exact ⟨_, rfl, boxd w1 w2 _ _ _ _ _ tl ht2 hb1, finB Hb hb1 _⟩

set_option maxRecDepth 100000 in
set_option maxHeartbeats 1000000 in
theorem toCH (v : Value) (c : CH) (w : World) (h : CHp w v c Any) : Calls Tryf.prog 30 #[v] w fun e w' => ∃ p, e = .returned (.pointer p) ∧ CHp w' (.pointer p) c Any ∧ Below w.heap.size w w' := by
  rcases h with ⟨rfl, rfl⟩ | ⟨b, o, d, cap, la, ll, lc, p, tl, rfl, c0, c1, c2, c3, hl, ht, rfl⟩
  · go_enter Tryf.func30, Tryf.ntmps30
    go_wp2
    go_ret
    exact ⟨_, rfl, .inl ⟨rfl, rfl⟩, Below.refl _ _⟩
  · have HT : Hid (TLp w (.pointer p) tl) := ht
    clear hl ht
    have A := toTL (.pointer p) tl w.drew HT.out
    have A' := toTL (.pointer p) tl w HT.out
    have hd : Below w.heap.size w w.drew := (Below.refl _ _).drew
    go_enter Tryf.func30, Tryf.ntmps30
    go_wp2_with fail
    go_region_held3 (fun w' => w'.cell? ⟨b, o, none⟩ = some (.bool d) ∧ w'.cell? ⟨b, o + 1, none⟩ = some (.string cap) ∧ w'.cell? ⟨b, o + 2, none⟩ = some (.slice la ll lc) ∧ w'.cell? ⟨b, o + 3, none⟩ = some (.pointer p)) (first | exact ⟨cellB (alB _ _) (by assumption), cellB (alB _ _) (by assumption), cellB (alB _ _) (by assumption), cellB (alB _ _) (by assumption)⟩ | simp [*])
      (first
        | (go_at_call 29; (first | with_reducible refine A.mono ?_ | with_reducible refine A'.mono ?_); rintro e w2 ⟨y2, rfl, ht2, hb2⟩; have p0 := cellB hb2 c0; have p1 := cellB hb2 c1; have p2 := cellB hb2 c2; have p3 := cellB hb2 c3))
    all_goals go_wp2_with fail
    all_goals go_ret
    all_goals first | exact ⟨_, rfl, box4 w2 w2 _ d cap _ _ _ _ tl ht2 (Below.refl _ _), finB hd hb2 _⟩ | exact ⟨_, rfl, box4 w2 w2 _ d cap _ _ _ _ tl ht2 (Below.refl _ _), finB (Below.refl _ _) hb2 _⟩

def upC (c : CH) : CH := match c with | none => none | some x => some (x.1, x.2.1, up 4096 x.2.2)
def upD (c : DC) : DC := match c with | none => none | some x => some (up 65536 x)

set_option maxRecDepth 100000 in
set_option maxHeartbeats 1000000 in
theorem raiseCH (v : Value) (c : CH) (w : World) (h : CHp w v c Any) : Calls Tryf.prog 21 #[v] w fun e w' => ∃ p, e = .returned (.pointer p) ∧ CHp w' (.pointer p) (upC c) Any ∧ Below w.heap.size w w' := by
  rcases h with ⟨rfl, rfl⟩ | ⟨b, o, d, cap, la, ll, lc, p, tl, rfl, c0, c1, c2, c3, hl, ht, rfl⟩
  · go_enter Tryf.func21, Tryf.ntmps21
    go_wp2
    go_ret
    exact ⟨_, rfl, .inl ⟨rfl, rfl⟩, Below.refl _ _⟩
  · have HT : Hid (TLp w (.pointer p) tl) := ht
    clear hl ht
    have A := raiseTL 4096 (.pointer p) tl w.drew HT.out
    have A' := raiseTL 4096 (.pointer p) tl w HT.out
    have hd : Below w.heap.size w w.drew := (Below.refl _ _).drew
    go_enter Tryf.func21, Tryf.ntmps21
    go_wp2_with fail
    go_region_held3 (fun w' => w'.cell? ⟨b, o, none⟩ = some (.bool d) ∧ w'.cell? ⟨b, o + 1, none⟩ = some (.string cap) ∧ w'.cell? ⟨b, o + 2, none⟩ = some (.slice la ll lc) ∧ w'.cell? ⟨b, o + 3, none⟩ = some (.pointer p)) (first | exact ⟨cellB (alB _ _) (by assumption), cellB (alB _ _) (by assumption), cellB (alB _ _) (by assumption), cellB (alB _ _) (by assumption)⟩ | simp [*])
      (first
        | (go_at_call 20; (first | with_reducible refine A.mono ?_ | with_reducible refine A'.mono ?_); rintro e w2 ⟨y2, rfl, ht2, hb2⟩; have p0 := cellB hb2 c0; have p1 := cellB hb2 c1; have p2 := cellB hb2 c2; have p3 := cellB hb2 c3))
    all_goals go_wp2_with fail
    all_goals go_ret
    all_goals first | exact ⟨_, rfl, box4 w2 w2 _ d cap _ _ _ _ (up 4096 tl) ht2 (Below.refl _ _), finB hd hb2 _⟩ | exact ⟨_, rfl, box4 w2 w2 _ d cap _ _ _ _ (up 4096 tl) ht2 (Below.refl _ _), finB (Below.refl _ _) hb2 _⟩

set_option maxRecDepth 100000 in
set_option maxHeartbeats 1000000 in
theorem toDC (v : Value) (c : DC) (w : World) (h : DCp w v c Any) : Calls Tryf.prog 31 #[v] w fun e w' => ∃ p, e = .returned (.pointer p) ∧ DCp w' (.pointer p) c Any ∧ Below w.heap.size w w' := by
  rcases h with ⟨rfl, rfl⟩ | ⟨b, o, la, ll, lc, p, tl, rfl, c0, c1, hl, ht, rfl⟩
  · go_enter Tryf.func31, Tryf.ntmps31
    go_wp2
    go_ret
    exact ⟨_, rfl, .inl ⟨rfl, rfl⟩, Below.refl _ _⟩
  · have HT : Hid (TLp w (.pointer p) tl) := ht
    clear hl ht
    have A := toTL (.pointer p) tl w.drew HT.out
    have A' := toTL (.pointer p) tl w HT.out
    have hd : Below w.heap.size w w.drew := (Below.refl _ _).drew
    go_enter Tryf.func31, Tryf.ntmps31
    go_wp2_with fail
    go_region_held3 (fun w' => w'.cell? ⟨b, o, none⟩ = some (.slice la ll lc) ∧ w'.cell? ⟨b, o + 1, none⟩ = some (.pointer p)) (first | exact ⟨cellB (alB _ _) (by assumption), cellB (alB _ _) (by assumption)⟩ | simp [*])
      (first
        | (go_at_call 29; (first | with_reducible refine A.mono ?_ | with_reducible refine A'.mono ?_); rintro e w2 ⟨y2, rfl, ht2, hb2⟩; have p0 := cellB hb2 c0; have p1 := cellB hb2 c1))
    all_goals go_wp2_with fail
    all_goals go_ret
    all_goals first | exact ⟨_, rfl, boxd w2 w2 _ _ _ _ _ tl ht2 (Below.refl _ _), finB hd hb2 _⟩ | exact ⟨_, rfl, boxd w2 w2 _ _ _ _ _ tl ht2 (Below.refl _ _), finB (Below.refl _ _) hb2 _⟩

set_option maxRecDepth 100000 in
set_option maxHeartbeats 1000000 in
theorem raiseDC (v : Value) (c : DC) (w : World) (h : DCp w v c Any) : Calls Tryf.prog 22 #[v] w fun e w' => ∃ p, e = .returned (.pointer p) ∧ DCp w' (.pointer p) (upD c) Any ∧ Below w.heap.size w w' := by
  rcases h with ⟨rfl, rfl⟩ | ⟨b, o, la, ll, lc, p, tl, rfl, c0, c1, hl, ht, rfl⟩
  · go_enter Tryf.func22, Tryf.ntmps22
    go_wp2
    go_ret
    exact ⟨_, rfl, .inl ⟨rfl, rfl⟩, Below.refl _ _⟩
  · have HT : Hid (TLp w (.pointer p) tl) := ht
    clear hl ht
    have A := raiseTL 65536 (.pointer p) tl w.drew HT.out
    have A' := raiseTL 65536 (.pointer p) tl w HT.out
    have hd : Below w.heap.size w w.drew := (Below.refl _ _).drew
    go_enter Tryf.func22, Tryf.ntmps22
    go_wp2_with fail
    go_region_held3 (fun w' => w'.cell? ⟨b, o, none⟩ = some (.slice la ll lc) ∧ w'.cell? ⟨b, o + 1, none⟩ = some (.pointer p)) (first | exact ⟨cellB (alB _ _) (by assumption), cellB (alB _ _) (by assumption)⟩ | simp [*])
      (first
        | (go_at_call 20; (first | with_reducible refine A.mono ?_ | with_reducible refine A'.mono ?_); rintro e w2 ⟨y2, rfl, ht2, hb2⟩; have p0 := cellB hb2 c0; have p1 := cellB hb2 c1))
    all_goals go_wp2_with fail
    all_goals go_ret
    all_goals first | exact ⟨_, rfl, boxd w2 w2 _ _ _ _ _ (up 65536 tl) ht2 (Below.refl _ _), finB hd hb2 _⟩ | exact ⟨_, rfl, boxd w2 w2 _ _ _ _ _ (up 65536 tl) ht2 (Below.refl _ _), finB (Below.refl _ _) hb2 _⟩

end Go.Proofs.Qxb6605778aFmt
