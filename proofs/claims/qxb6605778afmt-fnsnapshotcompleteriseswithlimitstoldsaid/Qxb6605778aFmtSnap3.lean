/-
  The readers: childBytes, docBytes, hasTooLong, snapshotForm; the bound on lengths.
-/
import Derived.Test.Qxb6605778aFmtSnap2
import Derived.Deep.DeepCutAuto
namespace Go.Proofs.Qxb6605778aFmt
open Go.RowKit Go.Deep

theorem drewB (w : World) (n : Nat) : Below w.heap.size w (w.drewN n) := ⟨rfl, rfl, rfl, Nat.le_refl _, fun _ _ => rfl⟩

theorem BytesOK.len {w : World} {la : Option Addr} {ll lc n : Nat} (h : BytesOK w (.slice la ll lc) n) : ll = n := by
  rcases h with ⟨h, rfl⟩ | ⟨x, c, h, rfl⟩ | ⟨b, o, c, f, h, _⟩
  · cases h; rfl
  · cases h; rfl
  · cases h; rfl

set_option maxHeartbeats 400000 in
theorem chb_any (v : Value) (c : CH) (w : World) (n : Nat) (h : CHp w v c (fun lk => BytesOK w lk n)) (hs : chS c n) : Calls Tryf.prog 13 #[v] w fun e w' => ∃ k : Int, e = .returned (.int .i64 k) ∧ 0 ≤ k ∧ k ≤ 4194304 ∧ Below w.heap.size w w' := by
  rcases h with ⟨rfl, rfl⟩ | ⟨b, o, d, cap, la, ll, lc, p, tl, rfl, c0, c1, c2, c3, hl, ht, rfl⟩
  · go_enter Tryf.func13, Tryf.ntmps13
    go_wp2
    go_ret
    exact ⟨_, rfl, by omega, by omega, Below.refl _ _⟩
  · obtain ⟨h1, h2, h3⟩ := hs
    have hll := hl.len
    have HT : Hid (TLp w (.pointer p) tl) := ht
    clear hl ht
    have h1 : cap.size ≤ 1048576 := h1
    have h3 : tlLen tl ≤ 1048576 := h3
    have h2 : ll ≤ 1048576 := by omega
    go_enter Tryf.func13, Tryf.ntmps13
    go_wp2_with fail
    go_quiet ((go_at_call 12; exact Calls.quiet_of_same (tlb_any _ tl _ HT.out)))
    go_wp2_with fail
    go_ret
    exact ⟨_, rfl, by omega, by omega, drewB _ _⟩

set_option maxHeartbeats 400000 in
theorem dcb_any (v : Value) (c : DC) (w : World) (n : Nat) (h : DCp w v c (fun lk => BytesOK w lk n)) (hs : dcS c n) : Calls Tryf.prog 14 #[v] w fun e w' => ∃ k : Int, e = .returned (.int .i64 k) ∧ 0 ≤ k ∧ k ≤ 4194304 ∧ Below w.heap.size w w' := by
  rcases h with ⟨rfl, rfl⟩ | ⟨b, o, la, ll, lc, p, tl, rfl, c0, c1, hl, ht, rfl⟩
  · go_enter Tryf.func14, Tryf.ntmps14
    go_wp2
    go_ret
    exact ⟨_, rfl, by omega, by omega, Below.refl _ _⟩
  · obtain ⟨h2, h3⟩ := hs
    have hll := hl.len
    have HT : Hid (TLp w (.pointer p) tl) := ht
    clear hl ht
    have h3 : tlLen tl ≤ 1048576 := h3
    have h2 : ll ≤ 1048576 := by omega
    go_enter Tryf.func14, Tryf.ntmps14
    go_wp2_with fail
    go_quiet ((go_at_call 12; exact Calls.quiet_of_same (tlb_any _ tl _ HT.out)))
    go_wp2_with fail
    go_ret
    exact ⟨_, rfl, by omega, by omega, drewB _ _⟩

theorem has_any (v : Value) (c : CH) (w : World) (h : CHp w v c Any) : Calls Tryf.prog 23 #[v] w fun e w' => e = .returned (.bool (match c with | none => false | some x => x.2.2.isSome)) ∧ w' = w := by
  rcases h with ⟨rfl, rfl⟩ | ⟨b, o, d, cap, la, ll, lc, p, tl, rfl, c0, c1, c2, c3, hl, ht, rfl⟩
  · go_enter Tryf.func23, Tryf.ntmps23
    go_wp2
    go_ret
    exact ⟨rfl, rfl⟩
  · rcases ht with ⟨hp, rfl⟩ | ⟨b', o', l, r, hp, q0, q1, rfl⟩
    · cases hp
      go_enter Tryf.func23, Tryf.ntmps23
      go_wp2
      go_ret
      exact ⟨rfl, rfl⟩
    · cases hp
      go_enter Tryf.func23, Tryf.ntmps23
      go_wp2
      go_ret
      exact ⟨rfl, rfl⟩

set_option maxHeartbeats 1000000 in
set_option maxRecDepth 100000 in
theorem zz_any (p0 p2 p3 p4 : Option Addr) (v1 : Value) (t : TL) (c m : CH) (d : DC) (n1 n2 n3 : Nat) (w : World) (h0 : TLp w (.pointer p0) t) (h2 : CHp w (.pointer p2) c (fun lk => BytesOK w lk n1)) (h3 : CHp w (.pointer p3) m (fun lk => BytesOK w lk n2)) (h4 : DCp w (.pointer p4) d (fun lk => BytesOK w lk n3)) :
    Calls Tryf.prog 11 #[.pointer p0, v1, .pointer p2, .pointer p3, .pointer p4] w fun e w' => ∃ b, e = .returned (.bool b) ∧ w' = w ∧ (b = true → tlLen t ≤ 1048576 ∧ chS c n1 ∧ chS m n2 ∧ dcS d n3) := by
  have H0 : Hid (TLp w (.pointer p0) t) := h0
  have H2 : Hid (CHp w (.pointer p2) c (fun lk => BytesOK w lk n1)) := h2
  have H3 : Hid (CHp w (.pointer p3) m (fun lk => BytesOK w lk n2)) := h3
  have H4 : Hid (DCp w (.pointer p4) d (fun lk => BytesOK w lk n3)) := h4
  clear h0 h2 h3 h4
  go_enter Tryf.func11, Tryf.ntmps11
  go_upto_if 13 with fail
  go_cut [11] (fun z wx => w = wx ∧ ∃ k : Int, z = .int .i64 k ∧ 0 ≤ k ∧ k ≤ 1048576 ∧ tlLen t ≤ 1048576)
  case first =>
    rcases H0.out with ⟨hp, rfl⟩ | ⟨b, o, l, r, hp, c0, c1, rfl⟩
    · cases hp
      go_wp2_with fail
      go_meet
      exact ⟨rfl, _, rfl, by omega, by omega, Nat.zero_le _⟩
    · cases hp
      go_wp2_with fail
      all_goals first
        | (go_ret; exact ⟨false, rfl, rfl, fun h => by cases h⟩)
        | (go_meet; exact ⟨rfl, _, rfl, by omega, by omega, (show r.size ≤ 1048576 by omega)⟩)
  case rest =>
  obtain ⟨rfl, k0, rfl, hk0, hk0', hs0⟩ := hcut
  go_upto_if 30 with fail
  go_cut [11] (fun z wx => w = wx ∧ ∃ k : Int, z = .int .i64 k ∧ 0 ≤ k ∧ k ≤ 1048576 ∧ chS c n1)
  case first =>
    rcases H2.out with ⟨hp, rfl⟩ | ⟨b, o, dd, cap, la, ll, lc, p, tl, hp, c0, c1, c2, c3, hl, ht, rfl⟩
    · cases hp
      go_wp2_with fail
      go_meet
      exact ⟨rfl, _, rfl, by omega, by omega, trivial⟩
    · cases hp
      have hll := hl.len
      clear hl
      rcases ht with ⟨hq, rfl⟩ | ⟨b', o', l, r, hq, q0, q1, rfl⟩
      · cases hq
        go_wp2_with fail
        all_goals first
          | (go_ret; exact ⟨false, rfl, rfl, fun h => by cases h⟩)
          | (go_meet; exact ⟨rfl, _, rfl, by omega, by omega, (show cap.size ≤ 1048576 by omega), (show n1 ≤ 1048576 by omega), Nat.zero_le _⟩)
      · cases hq
        go_wp2_with fail
        all_goals first
          | (go_ret; exact ⟨false, rfl, rfl, fun h => by cases h⟩)
          | (go_meet; exact ⟨rfl, _, rfl, by omega, by omega, (show cap.size ≤ 1048576 by omega), (show n1 ≤ 1048576 by omega), (show r.size ≤ 1048576 by omega)⟩)
  case rest =>
  obtain ⟨rfl, k1, rfl, hkk1, hkk1', hsk1⟩ := hcut
  go_upto_if 88 with fail
  go_cut [11] (fun z wx => w = wx ∧ ∃ k : Int, z = .int .i64 k ∧ 0 ≤ k ∧ k ≤ 1048576 ∧ chS m n2)
  case first =>
    rcases H3.out with ⟨hp, rfl⟩ | ⟨b, o, dd, cap, la, ll, lc, p, tl, hp, c0, c1, c2, c3, hl, ht, rfl⟩
    · cases hp
      go_wp2_with fail
      go_meet
      exact ⟨rfl, _, rfl, by omega, by omega, trivial⟩
    · cases hp
      have hll := hl.len
      clear hl
      rcases ht with ⟨hq, rfl⟩ | ⟨b', o', l, r, hq, q0, q1, rfl⟩
      · cases hq
        go_wp2_with fail
        all_goals first
          | (go_ret; exact ⟨false, rfl, rfl, fun h => by cases h⟩)
          | (go_meet; exact ⟨rfl, _, rfl, by omega, by omega, (show cap.size ≤ 1048576 by omega), (show n2 ≤ 1048576 by omega), Nat.zero_le _⟩)
      · cases hq
        go_wp2_with fail
        all_goals first
          | (go_ret; exact ⟨false, rfl, rfl, fun h => by cases h⟩)
          | (go_meet; exact ⟨rfl, _, rfl, by omega, by omega, (show cap.size ≤ 1048576 by omega), (show n2 ≤ 1048576 by omega), (show r.size ≤ 1048576 by omega)⟩)
  case rest =>
  obtain ⟨rfl, k2, rfl, hkk2, hkk2', hsk2⟩ := hcut
  go_upto_if 146 with fail
  rcases H4.out with ⟨hp, rfl⟩ | ⟨b, o, la, ll, lc, p, tl, hp, c0, c1, hl, ht, rfl⟩
  · cases hp
    go_wp2_with fail
    go_ret
    exact ⟨true, rfl, rfl, fun _ => ⟨hs0, hsk1, hsk2, trivial⟩⟩
  · cases hp
    have hll := hl.len
    clear hl
    rcases ht with ⟨hq, rfl⟩ | ⟨b', o', l, r, hq, q0, q1, rfl⟩
    · cases hq
      go_wp2_with fail
      all_goals go_ret
      all_goals first
        | exact ⟨false, rfl, rfl, fun h => by cases h⟩
        | exact ⟨true, rfl, rfl, fun _ => ⟨hs0, hsk1, hsk2, (show n3 ≤ 1048576 by omega), Nat.zero_le _⟩⟩
    · cases hq
      go_wp2_with fail
      all_goals go_ret
      all_goals first
        | exact ⟨false, rfl, rfl, fun h => by cases h⟩
        | exact ⟨true, rfl, rfl, fun _ => ⟨hs0, hsk1, hsk2, (show n3 ≤ 1048576 by omega), (show r.size ≤ 1048576 by omega)⟩⟩
end Go.Proofs.Qxb6605778aFmt
