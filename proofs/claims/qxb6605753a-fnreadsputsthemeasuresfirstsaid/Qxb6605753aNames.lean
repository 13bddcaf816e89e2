/-
  THE WALKS OVER SLICES OF NAMES THAT ONLY READ: firstIndex, slices.Index, slices.Contains, distinctNonEmpty, firstSeenOnce.
-/
import Derived.Test.Qxb6605753aProg
import Derived.Test.Qxb6605753aPlain
import Derived.WalkKit
import Derived.WalkSpells
import Derived.WalkLawsBesides
import Derived.KernelRfl
namespace Go.Proofs.Qxb6605753a
open Go.RowKit

theorem ret_int {k : IntKind} {a b : Int} (h : a = b) : Ending.returned (.int k a) = .returned (.int k b) := by rw [h]
theorem ret_bool {a b : Bool} (h : a = b) : Ending.returned (.bool a) = .returned (.bool b) := by rw [h]

/-- v is a slice that reads as the names xs. -/
def StrRow (w : World) (v : Value) (xs : List ByteArray) : Prop :=
  ∃ ao cap, v = .slice ao xs.length cap ∧ (xs = [] ∨ ∃ b off, ao = some ⟨b, off, none⟩ ∧ ∀ i, i < xs.length → w.cell? ⟨b, off + i, none⟩ = some (.string (xs.getD i ByteArray.empty)))

set_option maxHeartbeats 400000 in
theorem firstIndex_any (v : Value) (xs : List ByteArray) (s : ByteArray) (w : World) (h : StrRow w v xs) (hn : xs.length ≤ 100000) :
    Calls Try.prog 18 #[v, .string s] w fun e w' => e = .returned (.int .i64 (Lib.idxOfS xs s)) ∧ w' = w := by
  obtain ⟨ao, cap, rfl, h⟩ := h
  rcases h with rfl | ⟨b, off, rfl, hc⟩
  · go_enter Try.func18, Try.ntmps18
    go_wp2
    refine wp_loop_rounds 1 ?_
    rw [rounds_succ]
    go_wp2
    go_ret
    exact ⟨rfl, rfl⟩
  · have HH := Pl.idx_hit xs
    have HM := Pl.idx_miss xs
    generalize xs.length = n at *
    have HH : Hid (∀ k x, k < n → xs.getD k ByteArray.empty = x → (∀ j, j < k → xs.getD j ByteArray.empty ≠ x) → Lib.idxOfS xs x = k) := HH
    have HM : Hid (∀ x, (∀ j, j < n → xs.getD j ByteArray.empty ≠ x) → Lib.idxOfS xs x = -1) := HM
    go_enter Try.func18, Try.ntmps18
    go_wp2
    go_loop [5] (fun i => ∃ k : Nat, k ≤ n ∧ i = .int .i64 k ∧ ∀ j, j < k → xs.getD j ByteArray.empty ≠ s) (fun i => n - (intOf i).toNat)
    case atStart => exact ⟨0, Nat.zero_le _, rfl, fun j hj => by omega⟩
    case round =>
      obtain ⟨k, hk, rfl, hne⟩ := hrel
      have HN : Hid (∀ j, j < k → xs.getD j ByteArray.empty ≠ s) := hne
      clear hne
      by_cases hlt : k < n
      · have hck := hc k hlt
        clear hc
        obtain ⟨x, hx⟩ : ∃ x, xs.getD k ByteArray.empty = x := ⟨_, rfl⟩
        rw [hx] at hck
        have HX : Hid (xs.getD k ByteArray.empty = x) := hx
        clear hx
        by_cases he : x = s
        · have hb : (x.toList == s.toList) = true := (Lib.bytes_beq_iff _ _).2 he
          have HE : Hid (x = s) := he
          clear he
          go_wp2
          go_ret
          exact ⟨ret_int (HH.out k s hlt (HX.out.trans HE.out) HN.out).symm, rfl⟩
        · have hb : (x.toList == s.toList) = false := (Lib.bytes_beq_false_iff _ _).2 he
          go_wp2
          go_round
          case rel => exact ⟨k + 1, by omega, by go_num, fun j hj => by
            by_cases e : j = k
            · subst e; rw [HX.out]; exact he
            · exact HN.out j (by omega)⟩
          case measure => simp [intOf]; omega
      · obtain rfl : n = k := by omega
        go_wp2
        go_ret
        exact ⟨ret_int (HM.out s HN.out).symm, rfl⟩

set_option maxHeartbeats 400000 in
theorem index_any (v : Value) (xs : List ByteArray) (s : ByteArray) (w : World) (h : StrRow w v xs) (hn : xs.length ≤ 100000) :
    Calls Try.prog 46 #[v, .string s] w fun e w' => e = .returned (.int .i64 (Lib.idxOfS xs s)) ∧ w' = w := by
  obtain ⟨ao, cap, rfl, h⟩ := h
  rcases h with rfl | ⟨b, off, rfl, hc⟩
  · go_enter Try.func46, Try.ntmps46
    go_wp2
    refine wp_loop_rounds 1 ?_
    rw [rounds_succ]
    go_wp2
    go_ret
    exact ⟨rfl, rfl⟩
  · have HH := Pl.idx_hit xs
    have HM := Pl.idx_miss xs
    generalize xs.length = n at *
    have HH : Hid (∀ k x, k < n → xs.getD k ByteArray.empty = x → (∀ j, j < k → xs.getD j ByteArray.empty ≠ x) → Lib.idxOfS xs x = k) := HH
    have HM : Hid (∀ x, (∀ j, j < n → xs.getD j ByteArray.empty ≠ x) → Lib.idxOfS xs x = -1) := HM
    go_enter Try.func46, Try.ntmps46
    go_wp2
    go_loop [8] (fun i => ∃ k : Nat, k ≤ n ∧ i = .int .i64 k ∧ ∀ j, j < k → xs.getD j ByteArray.empty ≠ s) (fun i => n - (intOf i).toNat)
    case atStart => exact ⟨0, Nat.zero_le _, rfl, fun j hj => by omega⟩
    case round =>
      obtain ⟨k, hk, rfl, hne⟩ := hrel
      have HN : Hid (∀ j, j < k → xs.getD j ByteArray.empty ≠ s) := hne
      clear hne
      by_cases hlt : k < n
      · have hck := hc k hlt
        clear hc
        obtain ⟨x, hx⟩ : ∃ x, xs.getD k ByteArray.empty = x := ⟨_, rfl⟩
        rw [hx] at hck
        have HX : Hid (xs.getD k ByteArray.empty = x) := hx
        clear hx
        by_cases he : x = s
        · have hb : (s.toList == x.toList) = true := (Lib.bytes_beq_iff _ _).2 he.symm
          have HE : Hid (x = s) := he
          clear he
          go_wp2
          go_ret
          exact ⟨ret_int (HH.out k s hlt (HX.out.trans HE.out) HN.out).symm, rfl⟩
        · have hb : (s.toList == x.toList) = false := (Lib.bytes_beq_false_iff _ _).2 (fun e => he e.symm)
          go_wp2
          go_round
          case rel => exact ⟨k + 1, by omega, by go_num, fun j hj => by
            by_cases e : j = k
            · subst e; rw [HX.out]; exact he
            · exact HN.out j (by omega)⟩
          case measure => simp [intOf]; omega
      · obtain rfl : n = k := by omega
        go_wp2
        go_ret
        exact ⟨ret_int (HM.out s HN.out).symm, rfl⟩

theorem contains_any (v : Value) (xs : List ByteArray) (s : ByteArray) (w : World) (h : StrRow w v xs) (hn : xs.length ≤ 100000) :
    Calls Try.prog 45 #[v, .string s] w fun e w' => e = .returned (.bool (decide (0 ≤ Lib.idxOfS xs s))) ∧ w' = w := by
  go_enter Try.func45, Try.ntmps45
  go_wp2_with (go_at_call 46; refine (index_any v xs s _ h hn).mono ?_; rintro e w' ⟨rfl, rfl⟩)
  go_ret
  exact ⟨rfl, rfl⟩

theorem StrRow.mono {w w' : World} {v : Value} {xs : List ByteArray} (h : StrRow w v xs) (k : ∀ b o x, w.cell? ⟨b, o, none⟩ = some x → v.ownBlock = some b → w'.cell? ⟨b, o, none⟩ = some x) : StrRow w' v xs := by
  obtain ⟨ao, cap, rfl, h⟩ := h
  rcases h with h | ⟨b, off, rfl, hc⟩
  · exact ⟨ao, cap, rfl, .inl h⟩
  · exact ⟨_, cap, rfl, .inr ⟨b, off, rfl, fun i hi => k _ _ _ (hc i hi) rfl⟩⟩

set_option maxHeartbeats 400000 in
theorem dne_any (v : Value) (xs : List ByteArray) (w : World) (h : StrRow w v xs) (hn : xs.length ≤ 100000) :
    Calls Try.prog 17 #[v] w fun e w' => e = .returned (.int .i64 (Pl.dneTo xs xs.length)) ∧ w' = w := by
  have hrow := h
  obtain ⟨ao, cap, rfl, h⟩ := h
  rcases h with rfl | ⟨b, off, rfl, hc⟩
  · go_enter Try.func17, Try.ntmps17
    go_wp2
    refine wp_loop_rounds 1 ?_
    rw [rounds_succ]
    go_wp2
    go_ret
    exact ⟨rfl, rfl⟩
  · have hle := Pl.dneTo_le xs
    generalize hN : xs.length = n at *
    have HLN : Hid (xs.length = n) := hN
    clear hN
    have HL : Hid (∀ k, Pl.dneTo xs k ≤ k) := hle
    have HR : Hid (StrRow w (.slice (some ⟨b, off, none⟩) n cap) xs) := hrow
    clear hle hrow
    go_enter Try.func17, Try.ntmps17
    go_wp2
    go_loop [3, 4] (fun t i => ∃ k : Nat, k ≤ n ∧ i = .int .i64 k ∧ t = .int .i64 (Pl.dneTo xs k)) (fun _ i => n - (intOf i).toNat)
    case atStart => exact ⟨0, Nat.zero_le _, rfl, rfl⟩
    case round =>
      obtain ⟨k, hk, rfl, rfl⟩ := hrel
      have hl := HL.out k
      by_cases hlt : k < n
      · have hck := hc k hlt
        clear hc
        obtain ⟨x, hx⟩ : ∃ x, xs.getD k ByteArray.empty = x := ⟨_, rfl⟩
        rw [hx] at hck
        have HX : Hid (xs.getD k ByteArray.empty = x) := hx
        clear hx
        cases hb : x.toList.isEmpty with
        | true =>
          have HB : Hid (Pl.dneTo xs (k + 1) = Pl.dneTo xs k) := by
            show Pl.dneTo xs (k + 1) = Pl.dneTo xs k
            have : Pl.cnt xs k = false := by unfold Pl.cnt Pl.emp; rw [HX.out]; simp [hb]
            simp [Pl.dneTo, this]
          go_wp2_with fail
          go_round
          case rel => exact ⟨k + 1, by omega, by go_num, by rw [HB.out]⟩
          case measure => simp [intOf]; omega
        | false =>
          by_cases hi : Lib.idxOfS xs x = k
          · have HB : Hid (Pl.dneTo xs (k + 1) = Pl.dneTo xs k + 1) := by
              show Pl.dneTo xs (k + 1) = Pl.dneTo xs k + 1
              have : Pl.cnt xs k = true := by unfold Pl.cnt Pl.emp; rw [HX.out]; simp [hb, hi]
              simp [Pl.dneTo, this]
            have hi' : (Lib.idxOfS xs x == (k : Int)) = true := by simp [hi]
            clear hi
            go_wp2_with fail
            refine (firstIndex_any _ xs x _ HR.out (by rw [HLN.out]; exact hn)).mono ?_
            rintro e w' ⟨rfl, rfl⟩
            go_wp2_with fail
            go_round
            case rel => exact ⟨k + 1, by omega, by go_num, by rw [HB.out]; go_num⟩
            case measure => simp [intOf]; omega
          · have HB : Hid (Pl.dneTo xs (k + 1) = Pl.dneTo xs k) := by
              show Pl.dneTo xs (k + 1) = Pl.dneTo xs k
              have : Pl.cnt xs k = false := by unfold Pl.cnt Pl.emp; rw [HX.out]; simp [hi]
              simp [Pl.dneTo, this]
            have hi' : (Lib.idxOfS xs x == (k : Int)) = false := by simp [hi]
            clear hi
            go_wp2_with fail
            refine (firstIndex_any _ xs x _ HR.out (by rw [HLN.out]; exact hn)).mono ?_
            rintro e w' ⟨rfl, rfl⟩
            go_wp2_with fail
            go_round
            case rel => exact ⟨k + 1, by omega, by go_num, by rw [HB.out]⟩
            case measure => simp [intOf]; omega
      · obtain rfl : n = k := by omega
        go_wp2_with fail
        go_ret
        exact ⟨rfl, rfl⟩

/-- The last index seen, behind k rounds. -/
def lastOf (f : Nat → Int) : Nat → Int
  | 0 => -1
  | k + 1 => f k
theorem lastOf_lt (f : Nat → Int) (n : Nat) (h0 : ∀ j, j < n → 0 ≤ f j) (h : ∀ i j, i < j → j < n → f i < f j) (k : Nat) (hk : k < n) : lastOf f k < f k := by
  cases k with
  | zero => have := h0 0 hk; simp only [lastOf]; omega
  | succ k => exact h k (k + 1) (by omega) hk

set_option maxHeartbeats 400000 in
/-- firstSeenOnce of what is gathered: true. -/
theorem once_any (v u : Value) (xs G : List ByteArray) (w : World) (h : StrRow w v G) (h2 : StrRow w u xs) (hn : xs.length ≤ 100000) (hg : Pl.Gath xs xs.length G) :
    Calls Try.prog 19 #[v, u] w fun e w' => e = .returned (.bool true) ∧ w' = w := by
  have hle : G.length ≤ xs.length := by rw [hg.len]; exact Pl.dneTo_le _ _
  have hlen := hg.len
  obtain ⟨ao, cap, rfl, h⟩ := h
  rcases h with rfl | ⟨b, off, rfl, hc⟩
  · have hz : Pl.dneTo xs xs.length = 0 := hlen.symm
    go_enter Try.func19, Try.ntmps19
    go_wp2
    refine wp_loop_rounds 1 ?_
    rw [rounds_succ]
    go_wp2_with (go_at_call 17; refine (dne_any u xs _ h2 hn).mono ?_; rintro e w' ⟨rfl, rfl⟩)
    go_ret
    exact ⟨rfl, rfl⟩
  · have hup : ∀ i j, i < j → j < G.length → Lib.idxOfS xs (G.getD i ByteArray.empty) < Lib.idxOfS xs (G.getD j ByteArray.empty) := fun i j h1 h2 => Pl.up_at hg h1 h2
    have hok : ∀ i, i < G.length → Pl.emp (G.getD i ByteArray.empty) = false ∧ 0 ≤ Lib.idxOfS xs (G.getD i ByteArray.empty) := fun i hi => by
      have := hg.ok _ (Pl.getD_mem G i hi)
      rw [List.take_length] at this
      exact ⟨this.1, Pl.idx_mem this.2⟩
    generalize G.length = n at *
    have HU : Hid (∀ i j, i < j → j < n → Lib.idxOfS xs (G.getD i ByteArray.empty) < Lib.idxOfS xs (G.getD j ByteArray.empty)) := hup
    have HO : Hid (∀ i, i < n → Pl.emp (G.getD i ByteArray.empty) = false ∧ 0 ≤ Lib.idxOfS xs (G.getD i ByteArray.empty)) := hok
    have HL : Hid (n = Pl.dneTo xs xs.length) := hlen
    have HR : Hid (StrRow w u xs) := h2
    clear hup hok hlen hg h2
    go_enter Try.func19, Try.ntmps19
    go_wp2
    go_loop [5, 6] (fun t i => ∃ k : Nat, k ≤ n ∧ i = .int .i64 k ∧ t = .int .i64 (lastOf (fun j => Lib.idxOfS xs (G.getD j ByteArray.empty)) k)) (fun _ i => n - (intOf i).toNat)
    case atStart => exact ⟨0, Nat.zero_le _, rfl, rfl⟩
    case round =>
      obtain ⟨k, hk, rfl, rfl⟩ := hrel
      by_cases hlt : k < n
      · have hck := hc k hlt
        clear hc
        have hlast := lastOf_lt (fun j => Lib.idxOfS xs (G.getD j ByteArray.empty)) n (fun j hj => (HO.out j hj).2) HU.out k hlt
        have hb := (HO.out k hlt).1
        have HN : Hid (lastOf (fun j => Lib.idxOfS xs (G.getD j ByteArray.empty)) (k + 1) = Lib.idxOfS xs (G.getD k ByteArray.empty)) := rfl
        generalize lastOf (fun j => Lib.idxOfS xs (G.getD j ByteArray.empty)) k = l at *
        obtain ⟨x, hx⟩ : ∃ x, G.getD k ByteArray.empty = x := ⟨_, rfl⟩
        simp only [hx] at hck hb hlast HN
        clear hx
        unfold Pl.emp at hb
        go_wp2_with fail
        refine (firstIndex_any u xs x _ HR.out hn).mono ?_
        rintro e w' ⟨rfl, rfl⟩
        go_wp2_with fail
        go_round
        case rel => exact ⟨k + 1, by omega, by go_num, by rw [HN.out]⟩
        case measure => simp [intOf]; omega
      · obtain rfl : n = k := by omega
        go_wp2_with fail
        refine (dne_any u xs _ HR.out hn).mono ?_
        rintro e w' ⟨rfl, rfl⟩
        go_wp2_with fail
        go_ret
        exact ⟨ret_bool (by simp [← HL.out]), rfl⟩
end Go.Proofs.Qxb6605753a
