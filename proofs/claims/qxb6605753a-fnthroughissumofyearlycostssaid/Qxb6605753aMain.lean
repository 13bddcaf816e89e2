import Derived.Test.Qxb6605753aThrough
namespace Go.Proofs.Qxb6605753a
open Go.RowKit Go.Deep

theorem info25 : (Try.prog.info? 25).map (fun i => (i.zero, i.size, i.bytes)) = some (some (.pointer none), 1, 8) := by kernel_rfl

theorem set_lit (v : Int) (h0 : 0 ≤ v) (h1 : v ≤ 9223372036854775807) (N : Nat) (w : World) (hN : w.heap.size = N) :
    Calls Try.prog 7 #[.pointer (some ⟨N, 0, none⟩), .int .i64 v] (w.alloc (.cells #[.bool false, .slice none 0 0, .bool false, .slice none 0 0] 31)) fun e w' =>
      e = .returned (.pointer (some ⟨N, 0, none⟩)) ∧ Below w.heap.size w w' ∧ RatIs N w' N v := by
  subst hN
  exact set_any v h0 h1 w

/-- What the round's stores want. -/
theorem Tab.cellY {B : Nat} {f : Nat → Int} {n i : Nat} {w : World} (h : Tab B f n i w) {k : Nat} (hk : k < n) : (∃ v, w.cell? ⟨B, k, none⟩ = some v) ∧ w.frozen? ⟨B, k, none⟩ = false := by
  obtain ⟨Y, hY, _⟩ := h.years
  exact ⟨⟨_, hY.cell hk⟩, hY.frozen k⟩
theorem Tab.cellE {B : Nat} {f : Nat → Int} {n i : Nat} {w : World} (h : Tab B f n i w) {k : Nat} (hk : k < n) : (∃ v, w.cell? ⟨B + 1, k, none⟩ = some v) ∧ w.frozen? ⟨B + 1, k, none⟩ = false := by
  obtain ⟨Y, hY, _⟩ := h.ends
  exact ⟨⟨_, hY.cell hk⟩, hY.frozen k⟩

set_option maxHeartbeats 1000000 in
set_option maxRecDepth 100000 in
theorem walk_main (b off n cap : Nat) (m : Nat) (f : Nat → Int) (w : World) (hb : b < w.heap.size) (hn1 : 1 ≤ n) (hn2 : n ≤ 65536) (hy2 : (m : Int) ≤ 9223372036854775807)
    (hc : ∀ k, k < n → w.cell? ⟨b, off + k, none⟩ = some (.int .i64 (f k))) :
    Calls Try.prog 3 #[.slice (some ⟨b, off, none⟩) n cap, .int .i64 m] w fun e w' => e = .returned (.bool true) ∧ Below w.heap.size w w' := by
  have hz : ((n : Int) == 0) = false := by simp; omega
  have hd1 : decide ((65536 : Int) < (n : Int)) = false := by simp; omega
  have hd2 : decide ((m : Int) < 0) = false := by simp
  have hmk := run_make_row' (P := Try.prog) 24 25 (.pointer none) 8 Try.underlying24 info25 rfl .i64 .i64 n (by omega) (by omega)
  go_enter Try.func3, Try.ntmps3
  go_wp2
  go_loop [5] (fun i => ∃ k : Nat, k ≤ n ∧ i = .int .i64 k ∧ ∀ j, j < k → 0 ≤ f j ∧ f j ≤ 70368744177664) (fun i => n - (intOf i).toNat)
  case atStart => exact ⟨0, Nat.zero_le _, rfl, fun j hj => by omega⟩
  case round =>
    obtain ⟨k, hk, rfl, hin⟩ := hrel
    by_cases hlt : k < n
    · have hck := hc k hlt
      have HC : Hid (∀ k, k < n → w.cell? ⟨b, off + k, none⟩ = some (.int .i64 (f k))) := hc
      clear hc
      by_cases h0 : f k < 0
      · go_wp2
        go_ret
        exact ⟨rfl, Below.refl _ _⟩
      · by_cases h1 : 70368744177664 < f k
        · go_wp2
          go_ret
          exact ⟨rfl, Below.refl _ _⟩
        · go_wp2
          go_round
          case rel => exact ⟨k + 1, by omega, by go_num, fun j hj => by
            by_cases e : j = k
            · subst e; omega
            · exact hin j (by omega)⟩
          case measure => simp [intOf]; omega
    · obtain rfl : n = k := by omega
      go_wp2_with fail
      clear hmk
      have HC : Hid (∀ k, k < n → w.cell? ⟨b, off + k, none⟩ = some (.int .i64 (f k))) := hc
      have HI : Hid (∀ j, j < n → 0 ≤ f j ∧ f j ≤ 70368744177664) := hin
      clear hc hin
      go_loopw [9, 10] (fun t i wr => ∃ k : Nat, k ≤ n ∧ i = .int .i64 k ∧ t = .int .i64 (psum f k) ∧ Below w.heap.size w wr ∧ Tab w.heap.size f n k wr) (fun _ i _ => n - (intOf i).toNat)
      case atStart => exact ⟨0, Nat.zero_le _, rfl, rfl, ((Below.refl _ _).alloc (Nat.le_refl _) _).alloc (by simp) _, Tab.start f n w⟩
      case round =>
        obtain ⟨k, hk, rfl, rfl, hnx, htab⟩ := hrel
        by_cases hlt : k < n
        · have hck : wr.cell? ⟨b, off + k, none⟩ = some (.int .i64 (f k)) := (hnx.cell (by exact hb)).trans (HC.out k hlt)
          have hbd := psum_bd f k fun j hj => HI.out j (by omega)
          have hbk := HI.out k hlt
          have hbr : b < wr.heap.size := Nat.lt_of_lt_of_le hb hnx.size
          have hck' : ∀ o, (wr.alloc o).cell? ⟨b, off + k, none⟩ = some (.int .i64 (f k)) := fun o => (World.cell?_alloc_lt (a := ⟨b, off + k, none⟩) _ _ hbr).trans hck
          go_wp2_with fail
          refine (set_lit _ hbk.1 (by omega) _ wr rfl).mono ?_
          rintro e w1 ⟨rfl, hb1, hr1⟩
          have htab1 := htab.below hb1
          obtain ⟨⟨v1, hv1⟩, hf1⟩ := htab1.cellY hlt
          go_wp2_with fail
          refine (set_lit _ (by omega) (by omega) _ (w1.setCell ⟨w.heap.size, k, none⟩ (.pointer (some ⟨wr.heap.size, 0, none⟩))) (nblk_setCell _ _ _)).mono ?_
          rintro e w3 ⟨rfl, hb3, hr3⟩
          have hsz := htab.size
          have hs1 := hb1.size
          have hE : (∃ v, w3.cell? ⟨w.heap.size + 1, k, none⟩ = some v) ∧ w3.frozen? ⟨w.heap.size + 1, k, none⟩ = false := by
            obtain ⟨E, hE, _⟩ := htab1.ends
            have hE3 := (hE.setOther (a := ⟨w.heap.size, k, none⟩) (by show w.heap.size + 1 ≠ w.heap.size; omega) (.pointer (some ⟨wr.heap.size, 0, none⟩))).of_block (hb3.block _ (by rw [nblk_setCell]; omega))
            exact ⟨⟨_, hE3.cell hlt⟩, hE3.frozen k⟩
          obtain ⟨⟨v3, hv3⟩, hf3⟩ := hE
          have hnew := Tab.step htab hb1 (hr1.mono hsz) hb3 (hr3.mono (by omega))
          have hbel : Below w.heap.size w w3 := ((hnx.trans (hb1.mono (by omega))).setCell (by exact Nat.le_refl _) _).trans (hb3.mono (by rw [nblk_setCell]; omega))
          clear hb1 hb3 hr1 hr3 htab htab1 hnx hck hck' hv1 hf1
          go_wp2_with fail
          go_roundw
          case rel => exact ⟨k + 1, by omega, by go_num, rfl, hbel.setCell (by show w.heap.size ≤ w.heap.size + 1; omega) _, hnew⟩
          case measure => simp [intOf]; omega
        · obtain rfl : n = k := by omega
          go_wp2_with fail
          refine (newShare_any wr htab).mono ?_
          rintro e w1 ⟨rfl, hsh1, hb1⟩
          go_wp2_with fail
          refine (through_any m w1 hsh1 hn1 hn2).mono ?_
          rintro e w2 ⟨⟨p, rfl, hr2⟩, hsh2, hb2⟩
          go_wp2_with fail
          refine (ratInt_any p _ w2 hr2).mono ?_
          rintro e w3 ⟨rfl, rfl⟩
          have hbel : Below w.heap.size w w3 := (hnx.trans (hb1.mono hnx.size)).trans (hb2.mono (Nat.le_trans hnx.size hb1.size))
          generalize wr.heap.size = S at *
          clear hb1 hb2 hnx htab hsh1 hr2
          by_cases hmn : m < n
          · have e1 : min n (m + 1) = m + 1 := by omega
            rw [e1]
            clear e1
            go_wp2_with fail
            go_loop [15, 16] (fun t i => ∃ k : Nat, k ≤ m + 1 ∧ i = .int .i64 k ∧ t = .int .i64 (psum f k)) (fun _ i => m + 1 - (intOf i).toNat)
            case atStart => exact ⟨0, Nat.zero_le _, rfl, rfl⟩
            case round =>
              obtain ⟨k, hk, rfl, rfl⟩ := hrel
              have hbd := psum_bd f k fun j hj => HI.out j (by omega)
              by_cases hlt : k ≤ m
              · have hbk := HI.out k (by omega)
                have hgeq : decide ((n : Int) ≤ (k : Int)) = false := by simp; omega
                go_wp2_with fail
                refine (year_any k w3 hsh2 (by omega)).mono ?_
                rintro e w4 ⟨⟨q, rfl, hr4⟩, hw4⟩
                obtain rfl : w3 = w4 := hw4.symm
                go_wp2_with fail
                refine (ratInt_any q _ w3 hr4).mono ?_
                rintro e w4 ⟨rfl, hw4⟩
                obtain rfl : w3 = w4 := hw4.symm
                go_wp2_with fail
                go_round
                case rel => exact ⟨k + 1, by omega, by go_num, rfl⟩
                case measure => simp [intOf]; omega
              · obtain rfl : k = m + 1 := by omega
                go_wp2_with fail
                go_loop [21, 22] (fun t i => ∃ k : Nat, k ≤ m + 1 ∧ i = .int .i64 k ∧ t = .int .i64 (psum f k)) (fun _ i => m + 1 - (intOf i).toNat)
                case atStart => exact ⟨0, Nat.zero_le _, rfl, rfl⟩
                case round =>
                  obtain ⟨k, hk, rfl, rfl⟩ := hrel
                  have hbd := psum_bd f k fun j hj => HI.out j (by omega)
                  by_cases hlt : k ≤ m
                  · have hbk := HI.out k (by omega)
                    have hck : w3.cell? ⟨b, off + k, none⟩ = some (.int .i64 (f k)) := (hbel.cell (by exact hb)).trans (HC.out k (by omega))
                    go_wp2_with fail
                    go_round
                    case rel => exact ⟨k + 1, by omega, by go_num, rfl⟩
                    case measure => simp [intOf]; omega
                  · obtain rfl : k = m + 1 := by omega
                    go_wp2_with fail
                    all_goals (go_ret; exact ⟨rfl, hbel⟩)
          · have e1 : min n (m + 1) = n := by omega
            rw [e1]
            clear e1
            go_wp2_with fail
            go_loopw [15, 16] (fun t i wr => ∃ k : Nat, k ≤ n + 1 ∧ i = .int .i64 k ∧ t = .int .i64 (psum f (min k n)) ∧ Below w.heap.size w wr ∧ Share w.heap.size f n S wr) (fun _ i _ => n + 1 - (intOf i).toNat)
            case atStart => exact ⟨0, Nat.zero_le _, rfl, by simp [psum], hbel, hsh2⟩
            case round =>
              obtain ⟨k, hk, rfl, rfl, hbel4, hsh4⟩ := hrel
              by_cases hlt : k < n
              · have hbd := psum_bd f k fun j hj => HI.out j (by omega)
                have hbk := HI.out k (by omega)
                have hgeq : decide ((n : Int) ≤ (k : Int)) = false := by simp; omega
                have e2 : min k n = k := by omega
                have e3 : min (k + 1) n = k + 1 := by omega
                rw [e2]
                clear e2
                have E3 : Hid (min (k + 1) n = k + 1) := e3
                clear e3
                go_wp2_with fail
                refine (year_any k wr hsh4 (by omega)).mono ?_
                rintro e w4 ⟨⟨q, rfl, hr4⟩, hw4⟩
                obtain rfl : wr = w4 := hw4.symm
                go_wp2_with fail
                refine (ratInt_any q _ wr hr4).mono ?_
                rintro e w4 ⟨rfl, hw4⟩
                obtain rfl : wr = w4 := hw4.symm
                go_wp2_with fail
                go_roundw
                case rel => exact ⟨k + 1, by omega, by go_num, by rw [E3.out]; rfl, hbel4, hsh4⟩
                case measure => simp [intOf]; omega
              · by_cases hkn : k = n
                · subst hkn
                  have hbd := psum_bd f k fun j hj => HI.out j (by omega)
                  rw [Nat.min_self]
                  go_wp2_with fail
                  refine (year_past S w.heap.size k k wr (Int.le_refl _) hsh4.c0).mono ?_
                  rintro e w4 ⟨rfl, rfl⟩
                  go_wp2_with fail
                  refine (ratInt_lit wr).mono ?_
                  rintro e w4 ⟨rfl, hb4⟩
                  go_wp2_with fail
                  go_roundw
                  case rel => exact ⟨k + 1, by omega, by go_num, by rw [show min (k + 1) k = k by omega], hbel4.trans (hb4.mono hbel4.size), hsh4.below hb4⟩
                  case measure => simp [intOf]
                · obtain rfl : k = n + 1 := by omega
                  rw [show min (n + 1) n = n by omega]
                  go_wp2_with fail
                  refine (year_past S w.heap.size n m wr (by omega) hsh4.c0).mono ?_
                  rintro e w4 ⟨rfl, rfl⟩
                  go_wp2_with fail
                  refine (ratInt_lit wr).mono ?_
                  rintro e w4 ⟨rfl, hb4⟩
                  have hbel5 : Below w.heap.size w w4 := hbel4.trans (hb4.mono hbel4.size)
                  clear hb4 hbel4 hsh4 hbel hsh2
                  go_wp2_with fail
                  go_loop [21, 22] (fun t i => ∃ k : Nat, k ≤ n ∧ i = .int .i64 k ∧ t = .int .i64 (psum f k)) (fun _ i => n - (intOf i).toNat)
                  case atStart => exact ⟨0, Nat.zero_le _, rfl, rfl⟩
                  case round =>
                    obtain ⟨k, hk, rfl, rfl⟩ := hrel
                    have hbd := psum_bd f k fun j hj => HI.out j (by omega)
                    by_cases hlt : k < n
                    · have hbk := HI.out k (by omega)
                      have hck : w4.cell? ⟨b, off + k, none⟩ = some (.int .i64 (f k)) := (hbel5.cell (by exact hb)).trans (HC.out k (by omega))
                      go_wp2_with fail
                      go_round
                      case rel => exact ⟨k + 1, by omega, by go_num, rfl⟩
                      case measure => simp [intOf]; omega
                    · obtain rfl : n = k := by omega
                      go_wp2_with fail
                      all_goals (go_ret; exact ⟨rfl, hbel5⟩)
end Go.Proofs.Qxb6605753a
