/-
  unmangleByRuns COMPUTES Pl.unm.
-/
import Derived.Test.Qxb6605778aFmtMng
namespace Go.Proofs.Qxb6605778aFmt
open Go.RowKit

def RunOk (s : ByteArray) (e : Ending) : Prop :=
  (∃ t, Pl.unm s.data.toList = some t ∧ e = .returned (.tuple #[.string ⟨t.toArray⟩, .bool true])) ∨
  (Pl.unm s.data.toList = none ∧ e = .returned (.tuple #[.string ⟨#[]⟩, .bool false]))

set_option maxRecDepth 100000 in
set_option maxHeartbeats 1000000 in
theorem runs_any (s : ByteArray) (w : World) (hs : s.size ≤ 1048576) :
    Calls Tryf.prog 8 #[.string s] w fun e w' => RunOk s e ∧ Below w.heap.size w w' := by
  obtain ⟨i0, hi, hz0, hz1, hz2⟩ := info_parts info5
  have hmk := make_bytes s.size (by omega) w
  have HSZ : Hid (s.data.toList.length = s.size) := by
    show _ = _
    rw [Array.length_toList]; rfl
  have HG : Hid (∀ k (h : k < s.size), s.data.toList.getD k 0 = s[k]) := fun k h => getD_at s k h
  go_enter Tryf.func8, Tryf.ntmps8
  go_wp2_with fail
  clear hmk
  go_loopw [4, 5] (fun t i wr => ∃ (k : Nat) (out : List UInt8), k ≤ s.size ∧ i = .int .i64 k ∧ Pl.Inv s.data.toList k out ∧ out.length ≤ k ∧ BB w.heap.size wr t out ∧ Below w.heap.size w wr) (fun _ i _ => s.size - (intOf i).toNat)
  case atStart => exact ⟨0, [], Nat.zero_le _, rfl, Pl.inv_start _, Nat.le_refl _, made_bb _ (by omega) w, (Below.refl _ _).alloc (Nat.le_refl _) _⟩
  case round =>
    obtain ⟨k, out, hk, rfl, hinv, hlen, hown, hbel⟩ := hrel
    have HI : Hid (Pl.Inv s.data.toList k out) := hinv
    clear hinv
    have hsz' : w.heap.size ≤ wr.heap.size := hbel.size
    unfold BB at hown
    by_cases hlt : k < s.size
    · by_cases h47 : (s[k].toNat : Int) = 47
      · go_wp2_with fail
        go_ret2
        exact ⟨.inr ⟨Pl.inv_slash HI.out (by rw [HSZ.out]; exact hlt) (by rw [HG.out k hlt]; exact u8_of _ 47 h47 (by decide)), rfl⟩, hbel⟩
      · by_cases h64 : (s[k].toNat : Int) = 64
        · go_wp2_with fail
          go_loop [7] (fun j => ∃ d : Nat, k + d ≤ s.size ∧ j = .int .i64 ((k : Int) + (d : Int)) ∧ ∀ t, k ≤ t → t < k + d → s.data.toList.getD t 0 = 64) (fun j => s.size - (intOf j).toNat)
          case atStart => exact ⟨0, by omega, by simp, fun t h1 h2 => by omega⟩
          case round =>
            obtain ⟨d, hd, rfl, hrun⟩ := hrel
            have HR : Hid (∀ t, k ≤ t → t < k + d → s.data.toList.getD t 0 = 64) := hrun
            clear hrun
            by_cases hgo : ∃ h : k + d < s.size, ((s[k + d]'h).toNat : Int) = 64
            · obtain ⟨hl, h1⟩ := hgo
              go_wp2_with fail
              go_round
              case rel => exact ⟨d + 1, by omega, by go_num, fun t h1' h2' => by
                by_cases e : t = k + d
                · subst e; rw [HG.out _ hl]; exact u8_of _ 64 h1 (by decide)
                · exact HR.out t h1' (by omega)⟩
              case measure => simp [intOf]; omega
            · have HD : Hid (k + d < s.size → s.data.toList.getD (k + d) 0 ≠ 64) := fun h => by
                rw [HG.out _ h]; exact u8_ne _ 64 (fun e => hgo ⟨h, e⟩) (by decide)
              have hd0 : 0 < d := by
                rcases Nat.eq_zero_or_pos d with rfl | h
                · exact absurd ⟨hlt, h64⟩ hgo
                · exact h
              have HGo : Hid (¬ ∃ h : k + d < s.size, ((s[k + d]'h).toNat : Int) = 64) := hgo
              clear hgo
              by_cases hl : k + d < s.size
              · have h1 : ¬ (s[k + d].toNat : Int) = 64 := fun e => HGo.out ⟨hl, e⟩
                have h1b : ((s[k + d].toNat : Int) == 64) = false := by simpa using h1
                by_cases hpar : d % 2 = 0
                · have hqd : ((k : Int) + (d : Int) - (k : Int)) = d := by omega
                  obtain ⟨m, hm⟩ : ∃ m : Nat, d = 2 * m := ⟨d / 2, by omega⟩
                  have HM : Hid (k + d - k = 2 * m) := by show _ = _; omega
                  have hq2 : (d : Int) / 2 = (m : Int) := by omega
                  have hr2 : (d : Int) % 2 = 0 := by omega
                  have hq1 : (d : Int).tdiv 2 = (m : Int) := by rw [Int.tdiv_eq_ediv_of_nonneg (by omega)]; exact hq2
                  have hr1 : (d : Int).tmod 2 = 0 := by rw [Int.tmod_eq_emod_of_nonneg (by omega)]; exact hr2
                  have hmd : 2 * m ≤ d := by omega
                  clear hm hpar
                  go_wp2_with fail
                  clear hqd
                  go_loopw [4, 9] (fun t i wr => ∃ h : Nat, h ≤ m ∧ i = .int .i64 h ∧ BB w.heap.size wr t (out ++ List.replicate h 64) ∧ Below w.heap.size w wr) (fun _ i _ => m - (intOf i).toNat)
                  case atStart => exact ⟨0, Nat.zero_le _, rfl, by rw [List.replicate_zero, List.append_nil]; exact hown, hbel⟩
                  case round =>
                    obtain ⟨h, hh, rfl, hown2, hbel2⟩ := hrel
                    have hlo : (out ++ List.replicate h (64 : UInt8)).length = out.length + h := by simp
                    have HS : Hid (out ++ List.replicate (h + 1) (64 : UInt8) = (out ++ List.replicate h 64) ++ [64]) := by show _ = _; simp [List.replicate_succ']
                    have hsz2 : w.heap.size ≤ wr.heap.size := hbel2.size
                    by_cases hhm : h < m
                    · generalize out ++ List.replicate h (64 : UInt8) = O at *
                      unfold BB at hown2
                      go_wp2_with (at_builtin; refine wpList_append_own_at _ rfl _ _ 51 rfl w.heap.size 5 i0 (.int .u8 0) 1 1 Tryf.underlying51 hi hz0 hz1 hz2 rfl (by decide) _ _ _ rfl (World.ownsRow.alloc hown2 _) ⟨wr.heap.size, 0, none⟩ 1 1 [.int .u8 64] rfl rfl (cell_one_new _ _ _) (by intro u hu; simp at hu; subst hu; rfl) (by unfold maxLen; omega) (by omega) (by simp; omega) ?_; intro v' w1 hown' hgrow hnil hloc)
                      go_roundw
                      case rel =>
                        obtain ⟨a1, a2⟩ := BB.step (news := [64]) hown2 hbel2 hsz2 hown' rfl rfl hgrow
                        exact ⟨h + 1, by omega, by go_num, by rw [HS.out]; exact a1, a2⟩
                      case measure => simp [intOf]; omega
                    · obtain rfl : m = h := by omega
                      go_wp2_with fail
                      go_roundw
                      case rel => exact ⟨k + d, out ++ List.replicate m 64, hd, by go_num, Pl.inv_even HI.out (by omega) (by rw [HSZ.out]; exact hd) HR.out HM.out, by rw [hlo]; omega, hown2, hbel2⟩
                      case measure => simp [intOf]; omega
                · have hqd : ((k : Int) + (d : Int) - (k : Int)) = d := by omega
                  obtain ⟨m, hm⟩ : ∃ m : Nat, d = 2 * m + 1 := ⟨d / 2, by omega⟩
                  have HM : Hid (k + d - k = 2 * m + 1) := by show _ = _; omega
                  have hq2 : (d : Int) / 2 = (m : Int) := by omega
                  have hr2 : (d : Int) % 2 = 1 := by omega
                  have hq1 : (d : Int).tdiv 2 = (m : Int) := by rw [Int.tdiv_eq_ediv_of_nonneg (by omega)]; exact hq2
                  have hr1 : (d : Int).tmod 2 = 1 := by rw [Int.tmod_eq_emod_of_nonneg (by omega)]; exact hr2
                  have hmd : 2 * m ≤ d := by omega
                  clear hm hpar
                  go_wp2_with fail
                  clear hqd
                  go_loopw [4, 9] (fun t i wr => ∃ h : Nat, h ≤ m ∧ i = .int .i64 h ∧ BB w.heap.size wr t (out ++ List.replicate h 64) ∧ Below w.heap.size w wr) (fun _ i _ => m - (intOf i).toNat)
                  case atStart => exact ⟨0, Nat.zero_le _, rfl, by rw [List.replicate_zero, List.append_nil]; exact hown, hbel⟩
                  case round =>
                    obtain ⟨h, hh, rfl, hown2, hbel2⟩ := hrel
                    have hlo : (out ++ List.replicate h (64 : UInt8)).length = out.length + h := by simp
                    have HS : Hid (out ++ List.replicate (h + 1) (64 : UInt8) = (out ++ List.replicate h 64) ++ [64]) := by show _ = _; simp [List.replicate_succ']
                    have hsz2 : w.heap.size ≤ wr.heap.size := hbel2.size
                    by_cases hhm : h < m
                    · generalize out ++ List.replicate h (64 : UInt8) = O at *
                      unfold BB at hown2
                      go_wp2_with (at_builtin; refine wpList_append_own_at _ rfl _ _ 51 rfl w.heap.size 5 i0 (.int .u8 0) 1 1 Tryf.underlying51 hi hz0 hz1 hz2 rfl (by decide) _ _ _ rfl (World.ownsRow.alloc hown2 _) ⟨wr.heap.size, 0, none⟩ 1 1 [.int .u8 64] rfl rfl (cell_one_new _ _ _) (by intro u hu; simp at hu; subst hu; rfl) (by unfold maxLen; omega) (by omega) (by simp; omega) ?_; intro v' w1 hown' hgrow hnil hloc)
                      go_roundw
                      case rel =>
                        obtain ⟨a1, a2⟩ := BB.step (news := [64]) hown2 hbel2 hsz2 hown' rfl rfl hgrow
                        exact ⟨h + 1, by omega, by go_num, by rw [HS.out]; exact a1, a2⟩
                      case measure => simp [intOf]; omega
                    · obtain rfl : m = h := by omega
                      by_cases h95 : (s[k + d].toNat : Int) = 95
                      · have hb95 : ((s[k + d].toNat : Int) == 95) = true := by simpa using h95
                        have hb95' : ((s[k + d].toNat : Int) != 95) = false := by simpa using h95
                        generalize hO : out ++ List.replicate m (64 : UInt8) = O at *
                        have HO : Hid (out ++ List.replicate m (64 : UInt8) = O) := hO
                        clear hO
                        unfold BB at hown2
                        go_wp2_with (at_builtin; refine wpList_append_own_at _ rfl _ _ 51 rfl w.heap.size 5 i0 (.int .u8 0) 1 1 Tryf.underlying51 hi hz0 hz1 hz2 rfl (by decide) _ _ _ rfl (World.ownsRow.alloc hown2 _) ⟨wr.heap.size, 0, none⟩ 1 1 [.int .u8 47] rfl rfl (cell_one_new _ _ _) (by intro u hu; simp at hu; subst hu; rfl) (by unfold maxLen; omega) (by omega) (by simp; omega) ?_; intro v' w1 hown' hgrow hnil hloc)
                        go_roundw
                        case rel =>
                          obtain ⟨a1, a2⟩ := BB.step (news := [47]) hown2 hbel2 hsz2 hown' rfl rfl hgrow
                          exact ⟨k + d + 1, O ++ [47], by omega, by go_num, by rw [← HO.out]; exact Pl.inv_odd_low HI.out (by omega) (by rw [HSZ.out]; exact hl) HR.out HM.out (by rw [HG.out _ hl]; exact u8_of _ 95 h95 (by decide)), by rw [List.length_append, hlo]; simp; omega, a1, a2⟩
                        case measure => simp [intOf]; omega
                      · have hb95 : ((s[k + d].toNat : Int) == 95) = false := by simpa using h95
                        have hb95' : ((s[k + d].toNat : Int) != 95) = true := by simpa using h95
                        go_wp2_with fail
                        go_ret2
                        exact ⟨.inr ⟨Pl.inv_odd_bad HI.out (by omega) (by rw [HSZ.out]; exact hd) HR.out HM.out (fun h => ⟨HD.out hl, by rw [HG.out _ hl]; exact u8_ne _ 95 h95 (by decide)⟩), rfl⟩, hbel2⟩
              · have HNl : Hid (¬ k + d < s.size) := hl
                by_cases hpar : d % 2 = 0
                · have hqd : ((k : Int) + (d : Int) - (k : Int)) = d := by omega
                  obtain ⟨m, hm⟩ : ∃ m : Nat, d = 2 * m := ⟨d / 2, by omega⟩
                  have HM : Hid (k + d - k = 2 * m) := by show _ = _; omega
                  have hq2 : (d : Int) / 2 = (m : Int) := by omega
                  have hr2 : (d : Int) % 2 = 0 := by omega
                  have hq1 : (d : Int).tdiv 2 = (m : Int) := by rw [Int.tdiv_eq_ediv_of_nonneg (by omega)]; exact hq2
                  have hr1 : (d : Int).tmod 2 = 0 := by rw [Int.tmod_eq_emod_of_nonneg (by omega)]; exact hr2
                  have hmd : 2 * m ≤ d := by omega
                  clear hm hpar
                  go_wp2_with fail
                  clear hqd
                  go_loopw [4, 9] (fun t i wr => ∃ h : Nat, h ≤ m ∧ i = .int .i64 h ∧ BB w.heap.size wr t (out ++ List.replicate h 64) ∧ Below w.heap.size w wr) (fun _ i _ => m - (intOf i).toNat)
                  case atStart => exact ⟨0, Nat.zero_le _, rfl, by rw [List.replicate_zero, List.append_nil]; exact hown, hbel⟩
                  case round =>
                    obtain ⟨h, hh, rfl, hown2, hbel2⟩ := hrel
                    have hlo : (out ++ List.replicate h (64 : UInt8)).length = out.length + h := by simp
                    have HS : Hid (out ++ List.replicate (h + 1) (64 : UInt8) = (out ++ List.replicate h 64) ++ [64]) := by show _ = _; simp [List.replicate_succ']
                    have hsz2 : w.heap.size ≤ wr.heap.size := hbel2.size
                    by_cases hhm : h < m
                    · generalize out ++ List.replicate h (64 : UInt8) = O at *
                      unfold BB at hown2
                      go_wp2_with (at_builtin; refine wpList_append_own_at _ rfl _ _ 51 rfl w.heap.size 5 i0 (.int .u8 0) 1 1 Tryf.underlying51 hi hz0 hz1 hz2 rfl (by decide) _ _ _ rfl (World.ownsRow.alloc hown2 _) ⟨wr.heap.size, 0, none⟩ 1 1 [.int .u8 64] rfl rfl (cell_one_new _ _ _) (by intro u hu; simp at hu; subst hu; rfl) (by unfold maxLen; omega) (by omega) (by simp; omega) ?_; intro v' w1 hown' hgrow hnil hloc)
                      go_roundw
                      case rel =>
                        obtain ⟨a1, a2⟩ := BB.step (news := [64]) hown2 hbel2 hsz2 hown' rfl rfl hgrow
                        exact ⟨h + 1, by omega, by go_num, by rw [HS.out]; exact a1, a2⟩
                      case measure => simp [intOf]; omega
                    · obtain rfl : m = h := by omega
                      go_wp2_with fail
                      go_roundw
                      case rel => exact ⟨k + d, out ++ List.replicate m 64, hd, by go_num, Pl.inv_even HI.out (by omega) (by rw [HSZ.out]; exact hd) HR.out HM.out, by rw [hlo]; omega, hown2, hbel2⟩
                      case measure => simp [intOf]; omega
                · have hqd : ((k : Int) + (d : Int) - (k : Int)) = d := by omega
                  obtain ⟨m, hm⟩ : ∃ m : Nat, d = 2 * m + 1 := ⟨d / 2, by omega⟩
                  have HM : Hid (k + d - k = 2 * m + 1) := by show _ = _; omega
                  have hq2 : (d : Int) / 2 = (m : Int) := by omega
                  have hr2 : (d : Int) % 2 = 1 := by omega
                  have hq1 : (d : Int).tdiv 2 = (m : Int) := by rw [Int.tdiv_eq_ediv_of_nonneg (by omega)]; exact hq2
                  have hr1 : (d : Int).tmod 2 = 1 := by rw [Int.tmod_eq_emod_of_nonneg (by omega)]; exact hr2
                  have hmd : 2 * m ≤ d := by omega
                  clear hm hpar
                  go_wp2_with fail
                  clear hqd
                  go_loopw [4, 9] (fun t i wr => ∃ h : Nat, h ≤ m ∧ i = .int .i64 h ∧ BB w.heap.size wr t (out ++ List.replicate h 64) ∧ Below w.heap.size w wr) (fun _ i _ => m - (intOf i).toNat)
                  case atStart => exact ⟨0, Nat.zero_le _, rfl, by rw [List.replicate_zero, List.append_nil]; exact hown, hbel⟩
                  case round =>
                    obtain ⟨h, hh, rfl, hown2, hbel2⟩ := hrel
                    have hlo : (out ++ List.replicate h (64 : UInt8)).length = out.length + h := by simp
                    have HS : Hid (out ++ List.replicate (h + 1) (64 : UInt8) = (out ++ List.replicate h 64) ++ [64]) := by show _ = _; simp [List.replicate_succ']
                    have hsz2 : w.heap.size ≤ wr.heap.size := hbel2.size
                    by_cases hhm : h < m
                    · generalize out ++ List.replicate h (64 : UInt8) = O at *
                      unfold BB at hown2
                      go_wp2_with (at_builtin; refine wpList_append_own_at _ rfl _ _ 51 rfl w.heap.size 5 i0 (.int .u8 0) 1 1 Tryf.underlying51 hi hz0 hz1 hz2 rfl (by decide) _ _ _ rfl (World.ownsRow.alloc hown2 _) ⟨wr.heap.size, 0, none⟩ 1 1 [.int .u8 64] rfl rfl (cell_one_new _ _ _) (by intro u hu; simp at hu; subst hu; rfl) (by unfold maxLen; omega) (by omega) (by simp; omega) ?_; intro v' w1 hown' hgrow hnil hloc)
                      go_roundw
                      case rel =>
                        obtain ⟨a1, a2⟩ := BB.step (news := [64]) hown2 hbel2 hsz2 hown' rfl rfl hgrow
                        exact ⟨h + 1, by omega, by go_num, by rw [HS.out]; exact a1, a2⟩
                      case measure => simp [intOf]; omega
                    · obtain rfl : m = h := by omega
                      go_wp2_with fail
                      go_ret2
                      exact ⟨.inr ⟨Pl.inv_odd_bad HI.out (by omega) (by rw [HSZ.out]; exact hd) HR.out HM.out (fun h => absurd h (by rw [HSZ.out]; exact HNl.out)), rfl⟩, hbel2⟩
        · go_wp2_with (at_builtin; refine wpList_append_own_at _ rfl _ _ 51 rfl w.heap.size 5 i0 (.int .u8 0) 1 1 Tryf.underlying51 hi hz0 hz1 hz2 rfl (by decide) _ _ _ rfl (World.ownsRow.alloc hown _) ⟨wr.heap.size, 0, none⟩ 1 1 [.int .u8 s[k].toNat] rfl rfl (cell_one_new _ _ _) (by intro u hu; simp at hu; subst hu; rfl) (by unfold maxLen; omega) (by omega) (by simp; omega) ?_; intro v' w1 hown' hgrow hnil hloc)
          go_roundw
          case rel =>
            obtain ⟨a1, a2⟩ := BB.step (news := [s[k]]) hown hbel hsz' hown' rfl rfl hgrow
            exact ⟨k + 1, out ++ [s[k]], by omega, by go_num, Pl.inv_plain HI.out (by rw [HSZ.out]; exact hlt) (HG.out k hlt) (u8_ne _ 47 h47 (by decide)) (u8_ne _ 64 h64 (by decide)), by simp; omega, a1, a2⟩
          case measure => simp [intOf]; omega
    · obtain rfl : s.size = k := by omega
      have hcv := conv_any hown
      go_wp2_with fail
      go_ret2
      exact ⟨.inl ⟨out, Pl.inv_end (by rw [HSZ.out]; exact HI.out), rfl⟩, hbel⟩
end Go.Proofs.Qxb6605778aFmt
