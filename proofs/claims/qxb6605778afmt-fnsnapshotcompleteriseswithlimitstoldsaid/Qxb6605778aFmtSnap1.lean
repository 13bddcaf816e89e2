/-
  THE SNAPSHOT's PARTS IN MEMORY: too-long notes (two cells), children (four cells), documents (two cells); the functions that read or copy a too-long note.
-/
import Derived.Test.Qxb6605778aFmtErrs
import Derived.Deep.QuietTactic
import Derived.BigQuiet
import Derived.Below
import Derived.Deep.OwnRows
import Derived.Laws.MakeOwn
namespace Go.Proofs.Qxb6605778aFmt
open Go.RowKit Go.Deep

abbrev TL := Option (Int × ByteArray)
abbrev CH := Option (Bool × ByteArray × TL)
abbrev DC := Option TL

def TLp (w : World) (v : Value) (t : TL) : Prop :=
  (v = .pointer none ∧ t = none) ∨ ∃ b o l r, v = .pointer (some ⟨b, o, none⟩) ∧ w.cell? ⟨b, o, none⟩ = some (.int .i64 l) ∧ w.cell? ⟨b, o + 1, none⟩ = some (.string r) ∧ t = some (l, r)

def CHp (w : World) (v : Value) (c : CH) (Lk : Value → Prop) : Prop :=
  (v = .pointer none ∧ c = none) ∨ ∃ b o d cap la ll lc p tl, v = .pointer (some ⟨b, o, none⟩) ∧ w.cell? ⟨b, o, none⟩ = some (.bool d) ∧ w.cell? ⟨b, o + 1, none⟩ = some (.string cap) ∧ w.cell? ⟨b, o + 2, none⟩ = some (.slice la ll lc) ∧ w.cell? ⟨b, o + 3, none⟩ = some (.pointer p) ∧ Lk (.slice la ll lc) ∧ TLp w (.pointer p) tl ∧ c = some (d, cap, tl)

def DCp (w : World) (v : Value) (c : DC) (Lk : Value → Prop) : Prop :=
  (v = .pointer none ∧ c = none) ∨ ∃ b o la ll lc p tl, v = .pointer (some ⟨b, o, none⟩) ∧ w.cell? ⟨b, o, none⟩ = some (.slice la ll lc) ∧ w.cell? ⟨b, o + 1, none⟩ = some (.pointer p) ∧ Lk (.slice la ll lc) ∧ TLp w (.pointer p) tl ∧ c = some tl

theorem cell_lt {w : World} {b o : Nat} {v : Value} (h : w.cell? ⟨b, o, none⟩ = some v) : b < w.heap.size := by
  refine Nat.lt_of_not_le fun hn => ?_
  have : w.heap[b]? = none := Array.getElem?_eq_none hn
  simp [World.cell?, this] at h

theorem cellB {w w' : World} {b o : Nat} {x : Value} (k : Below w.heap.size w w') (h : w.cell? ⟨b, o, none⟩ = some x) : w'.cell? ⟨b, o, none⟩ = some x :=
  (k.cell (p := ⟨b, o, none⟩) (cell_lt h)).trans h

theorem TLp.kept {w w' : World} {v : Value} {t : TL} (h : TLp w v t) (k : Below w.heap.size w w') : TLp w' v t := by
  rcases h with h | ⟨b, o, l, r, hv, c0, c1, ht⟩
  · exact .inl h
  · exact .inr ⟨b, o, l, r, hv, cellB k c0, cellB k c1, ht⟩

theorem CHp.kept {w w' : World} {v : Value} {c : CH} {Lk : Value → Prop} (h : CHp w v c Lk) (k : Below w.heap.size w w') : CHp w' v c Lk := by
  rcases h with h | ⟨b, o, d, cap, la, ll, lc, p, tl, hv, c0, c1, c2, c3, hl, ht, hc⟩
  · exact .inl h
  · exact .inr ⟨b, o, d, cap, la, ll, lc, p, tl, hv, cellB k c0, cellB k c1, cellB k c2, cellB k c3, hl, ht.kept k, hc⟩

theorem DCp.kept {w w' : World} {v : Value} {c : DC} {Lk : Value → Prop} (h : DCp w v c Lk) (k : Below w.heap.size w w') : DCp w' v c Lk := by
  rcases h with h | ⟨b, o, la, ll, lc, p, tl, hv, c0, c1, hl, ht, hc⟩
  · exact .inl h
  · exact .inr ⟨b, o, la, ll, lc, p, tl, hv, cellB k c0, cellB k c1, hl, ht.kept k, hc⟩

def tlLen (t : TL) : Nat := match t with | none => 0 | some x => x.2.size

theorem tlb_any (v : Value) (t : TL) (w : World) (h : TLp w v t) : Calls Tryf.prog 12 #[v] w fun e w' => e = .returned (.int .i64 (tlLen t)) ∧ w' = w := by
  rcases h with ⟨rfl, rfl⟩ | ⟨b, o, l, r, rfl, c0, c1, rfl⟩
  · go_enter Tryf.func12, Tryf.ntmps12
    go_wp2
    go_ret
    exact ⟨rfl, rfl⟩
  · go_enter Tryf.func12, Tryf.ntmps12
    go_wp2
    go_ret
    exact ⟨rfl, rfl⟩

theorem box2 (w : World) (T : TypeId) (l : Int) (r : ByteArray) : TLp (w.alloc (.cells #[.int .i64 l, .string r] T)) (.pointer (some ⟨w.heap.size, 0, none⟩)) (some (l, r)) :=
  .inr ⟨_, _, l, r, rfl, by simp, by simp, rfl⟩

set_option maxHeartbeats 400000 in
theorem copyTL (v : Value) (t : TL) (w : World) (h : TLp w v t) : Calls Tryf.prog 15 #[v] w fun e w' => ∃ p, e = .returned (.pointer p) ∧ TLp w' (.pointer p) t ∧ Below w.heap.size w w' := by
  rcases h with ⟨rfl, rfl⟩ | ⟨b, o, l, r, rfl, c0, c1, rfl⟩
  · go_enter Tryf.func15, Tryf.ntmps15
    go_wp2
    go_ret
    exact ⟨_, rfl, .inl ⟨rfl, rfl⟩, Below.refl _ _⟩
  · go_enter Tryf.func15, Tryf.ntmps15
    go_wp2_with fail
    go_region
    all_goals go_wp2_with fail
    all_goals go_ret
    all_goals exact ⟨_, rfl, box2 w _ l r, ((Below.refl _ _).alloc (Nat.le_refl _) _).drew⟩

set_option maxHeartbeats 400000 in
theorem toTL (v : Value) (t : TL) (w : World) (h : TLp w v t) : Calls Tryf.prog 29 #[v] w fun e w' => ∃ p, e = .returned (.pointer p) ∧ TLp w' (.pointer p) t ∧ Below w.heap.size w w' := by
  rcases h with ⟨rfl, rfl⟩ | ⟨b, o, l, r, rfl, c0, c1, rfl⟩
  · go_enter Tryf.func29, Tryf.ntmps29
    go_wp2
    go_ret
    exact ⟨_, rfl, .inl ⟨rfl, rfl⟩, Below.refl _ _⟩
  · go_enter Tryf.func29, Tryf.ntmps29
    go_wp2_with fail
    go_region
    all_goals go_wp2_with fail
    all_goals go_ret
    all_goals exact ⟨_, rfl, box2 w _ l r, ((Below.refl _ _).alloc (Nat.le_refl _) _).drew⟩

/-- A too-long note whose limit is raised. -/
def up (k : Int) (t : TL) : TL := match t with | none => none | some x => some (if x.1 < k then k else x.1, x.2)

set_option maxHeartbeats 400000 in
theorem raiseTL (k : Int) (v : Value) (t : TL) (w : World) (h : TLp w v t) : Calls Tryf.prog 20 #[v, .int .i64 k] w fun e w' => ∃ p, e = .returned (.pointer p) ∧ TLp w' (.pointer p) (up k t) ∧ Below w.heap.size w w' := by
  rcases h with ⟨rfl, rfl⟩ | ⟨b, o, l, r, rfl, c0, c1, rfl⟩
  · go_enter Tryf.func20, Tryf.ntmps20
    go_wp2
    go_ret
    exact ⟨_, rfl, .inl ⟨rfl, rfl⟩, Below.refl _ _⟩
  · by_cases hlk : l < k
    · have HU : Hid (up k (some (l, r)) = some (k, r)) := by show _ = _; simp [up, hlk]
      go_enter Tryf.func20, Tryf.ntmps20
      go_wp2_with fail
      go_ret
      exact ⟨_, rfl, by rw [HU.out]; exact box2 w _ k r, (Below.refl _ _).alloc (Nat.le_refl _) _⟩
    · have HU : Hid (up k (some (l, r)) = some (l, r)) := by show _ = _; simp [up, hlk]
      go_enter Tryf.func20, Tryf.ntmps20
      go_wp2_with fail
      go_ret
      exact ⟨_, rfl, by rw [HU.out]; exact box2 w _ l r, (Below.refl _ _).alloc (Nat.le_refl _) _⟩

/-- A slice of n bytes that can be read. -/
def BytesOK (w : World) (v : Value) (n : Nat) : Prop :=
  (v = .slice none 0 0 ∧ n = 0) ∨ (∃ x c, v = .slice (some x) 0 c ∧ n = 0) ∨ ∃ (b o c : Nat) (f : Nat → Int), v = .slice (some ⟨b, o, none⟩) n c ∧ ∀ i, i < n → w.cell? ⟨b, o + i, none⟩ = some (.int .u8 (f i))

theorem BytesOK.kept {w w' : World} {v : Value} {n : Nat} (h : BytesOK w v n) (k : Below w.heap.size w w') : BytesOK w' v n := by
  rcases h with h | h | ⟨b, o, c, f, hv, hc⟩
  · exact .inl h
  · exact .inr (.inl h)
  · exact .inr (.inr ⟨b, o, c, f, hv, fun i hi => cellB k (hc i hi)⟩)

theorem infob : (Tryf.prog.info? 5).map (fun i => (i.zero, i.size, i.bytes)) = some (some (.int .u8 0), 1, 1) := by kernel_rfl

theorem make_n (n : Nat) (h : n ≤ 1048576) (w : World) : (Instr.makeSlice 51 (.int .i64 (n : Int)) (.int .i64 (n : Int))).run Tryf.prog w =
    .ok (.slice (some ⟨w.heap.size, 0, none⟩) n n) (w.alloc (.cells (madeCells #[.int .u8 0] n) 5)) := by
  obtain ⟨i, hi, hz, hs, hb⟩ := info_parts infob
  have hr := run_make (P := Tryf.prog) w 51 5 i _ Tryf.underlying51 hi hz .i64 .i64 n n (by omega) (by omega) (by rw [hb]; omega) (by omega)
  simp only [Int.toNat_natCast, hs, Nat.mul_one] at hr
  exact hr
theorem make_0 (w : World) : (Instr.makeSlice 51 (.int .i64 0) (.int .i64 0)).run Tryf.prog w = .ok (.slice (some ⟨w.heap.size, 0, none⟩) 0 0) (w.alloc (.cells #[] 5)) := by kernel_rfl

theorem eqs_none (w : World) : (binOp .eql 51 (.slice none 0 0) (.slice none 0 0)).run Tryf.prog w = .ok (.bool true) w := by kernel_rfl
theorem eqs_some (x : Addr) (n c : Nat) (w : World) : (binOp .eql 51 (.slice (some x) n c) (.slice none 0 0)).run Tryf.prog w = .ok (.bool false) w := by kernel_rfl
attribute [local go_sem] eqs_none eqs_some

set_option maxRecDepth 100000 in
set_option maxHeartbeats 400000 in
theorem clone_any (v : Value) (n : Nat) (w : World) (h : BytesOK w v n) (hn : n ≤ 1048576) : Calls Tryf.prog 28 #[v] w fun e w' => ∃ a l c, e = .returned (.slice a l c) ∧ Below w.heap.size w w' := by
  rcases h with ⟨rfl, rfl⟩ | ⟨x, c, rfl, rfl⟩ | ⟨b, o, c, f, rfl, hc⟩
  · go_enter Tryf.func28, Tryf.ntmps28
    go_wp2
    go_ret
    exact ⟨_, _, _, rfl, Below.refl _ _⟩
  · have hmk := make_0
    go_enter Tryf.func28, Tryf.ntmps28
    go_wp2
    refine wp_loop_rounds 1 ?_
    rw [rounds_succ]
    go_wp2
    go_ret
    exact ⟨_, _, _, rfl, (Below.refl _ _).alloc (Nat.le_refl _) _⟩
  · have hmk := make_n n hn
    have HC : Hid (∀ i, i < n → w.cell? ⟨b, o + i, none⟩ = some (.int .u8 (f i))) := hc
    clear hc
    go_enter Tryf.func28, Tryf.ntmps28
    go_wp2_with fail
    clear hmk
    go_loopw [4] (fun i wr => ∃ k : Nat, k ≤ n ∧ i = .int .i64 k ∧ Below w.heap.size w wr ∧ ∃ g, wr.rowIs w.heap.size 5 n g) (fun i _ => n - (intOf i).toNat)
    case atStart => exact ⟨0, Nat.zero_le _, rfl, (Below.refl _ _).alloc (Nat.le_refl _) _, _, World.rowIs_made w _ n 5⟩
    case round =>
      obtain ⟨k, hk, rfl, hnx, g, hrow⟩ := hrel
      by_cases hlt : k < n
      · have h0 := HC.out k hlt
        have hb : b < w.heap.size := cell_lt h0
        have h0 := (hnx.cell (p := ⟨b, o + k, none⟩) hb).trans h0
        have h1 := hrow.cell hlt
        have h2 := hrow.frozen k
        go_wp2_with fail
        go_roundw
        case rel => exact ⟨k + 1, by omega, by go_num, hnx.setCell (Nat.le_refl _) _, _, hrow.set k _⟩
        case measure => simp [intOf]; omega
      · obtain rfl : n = k := by omega
        go_wp2_with fail
        go_ret
        exact ⟨_, _, _, rfl, hnx⟩
end Go.Proofs.Qxb6605778aFmt
