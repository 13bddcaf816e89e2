/-
  layout.Unmangle COMPUTES Pl.unm.
-/
import Derived.Test.Qxb6605778aFmtShelf
import Derived.Test.Qxb6605778aFmtErrs
import Derived.Test.Qxb6605778aFmtPlain
namespace Go.Proofs.Qxb6605778aFmt
open Go.RowKit

theorem getD_at (s : ByteArray) (k : Nat) (h : k < s.size) : s.data.toList.getD k 0 = s[k] := by
  rw [List.getD_eq_getElem?_getD, List.getElem?_eq_getElem (by simpa using h)]; rfl
theorem u8_of (c : UInt8) (n : Nat) (h : (c.toNat : Int) = n) (hn : n < 256) : c = UInt8.ofNat n := by
  apply UInt8.toNat_inj.1; simp; omega
theorem u8_ne (c : UInt8) (n : Nat) (h : ¬ (c.toNat : Int) = n) (hn : n < 256) : c ≠ UInt8.ofNat n := by
  intro e; subst e; apply h; simp; omega

def UnmOk (s : ByteArray) (e : Ending) : Prop :=
  (∃ t, Pl.unm s.data.toList = some t ∧ e = .returned (.tuple #[.string ⟨t.toArray⟩, .nilIface])) ∨
  (∃ v, Pl.unm s.data.toList = none ∧ e = .returned (.tuple #[.string ⟨#[]⟩, .iface 81 (.pointer v)]))

theorem wbyte (out : List UInt8) (c : UInt8) (n : Int) (B b : Nat) (w : World) (hc : (c.toNat : Int) = n) (h : Lib.IsBuilder 53 5 B b (Lib.byteCells out) w) (hl : out.length ≤ 1048576) (hBw : B ≤ w.heap.size) :
    Calls Tryf.prog 26 #[.pointer (some ⟨b, 0, none⟩), .int .u8 n] w fun e w' => e = .returned .nilIface ∧ Lib.IsBuilder 53 5 B b (Lib.byteCells (out ++ [c])) w' ∧ Below B w w' := by
  subst hc
  refine (Tryf.Builder_WriteByte B b (Lib.byteCells out) c.toNat w h (by rw [Lib.byteCells_length]; omega) hBw).mono ?_
  rintro e w' ⟨h1, h2, h3⟩
  refine ⟨h1, ?_, h3⟩
  rw [Lib.byteCells_append]
  exact .inr h2

set_option maxRecDepth 100000 in
set_option maxHeartbeats 1000000 in
theorem unmangle_any (s : ByteArray) (w : World) (hs : s.size ≤ 1048576) :
    Calls Tryf.prog 7 #[.string s] w fun e w' => UnmOk s e ∧ Below w.heap.size w w' := by
  go_enter Tryf.func7, Tryf.ntmps7
  go_wp2
  go_loopw [5] (fun i wr => ∃ (k : Nat) (out : List UInt8), k ≤ s.size ∧ i = .int .i64 k ∧ Pl.Inv s.data.toList k out ∧ out.length ≤ k ∧ Lib.IsBuilder 53 5 w.heap.size w.heap.size (Lib.byteCells out) wr ∧ Below w.heap.size w wr) (fun i _ => s.size - (intOf i).toNat)
  case atStart => exact ⟨0, [], Nat.zero_le _, rfl, Pl.inv_start _, Nat.le_refl _, Lib.fresh_isBuilder 53 5 w, (Below.refl _ _).alloc (Nat.le_refl _) _⟩
  case round =>
    obtain ⟨k, out, hk, rfl, hinv, hlen, hB, hbel⟩ := hrel
    have HI : Hid (Pl.Inv s.data.toList k out) := hinv
    have hsz : s.data.toList.length = s.size := by rw [Array.length_toList]; rfl
    have HSZ : Hid (s.data.toList.length = s.size) := hsz
    clear hinv hsz
    by_cases hlt : k < s.size
    · have HC : Hid (s.data.toList.getD k 0 = s[k]) := getD_at s k hlt
      by_cases h47 : (s[k].toNat : Int) = 47
      · go_wp2_with fail
        refine (errorf1 s wr.heap.size _ (by simp)).mono ?_
        rintro e w1 ⟨⟨v, rfl⟩, hb1⟩
        go_wp2
        go_ret2
        exact ⟨.inr ⟨v, Pl.inv_slash HI.out (by rw [HSZ.out]; exact hlt) (by rw [HC.out]; exact u8_of _ 47 h47 (by decide)), rfl⟩, (hbel.alloc (by have := hbel.size; omega) _).trans (hb1.mono (by have := hbel.size; simp; omega))⟩
      · by_cases h64 : (s[k].toNat : Int) = 64
        · by_cases hl1 : k + 1 < s.size
          · have HC1 : Hid (s.data.toList.getD (k + 1) 0 = s[k + 1]) := getD_at s (k + 1) hl1
            by_cases h1 : (s[k + 1].toNat : Int) = 64
            · go_wp2_with fail
              refine (wbyte out 64 64 _ _ wr rfl hB (by omega) hbel.size).mono ?_
              rintro e w1 ⟨rfl, hB1, hb1⟩
              go_wp2
              go_roundw
              case rel => exact ⟨k + 1 + 1, out ++ [64], by omega, by go_num, Pl.inv_two HI.out (by rw [HSZ.out]; exact hl1) (by rw [HC.out]; exact u8_of _ 64 h64 (by decide)) (by rw [HC1.out]; exact u8_of _ 64 h1 (by decide)), by simp; omega, hB1, hbel.trans hb1⟩
              case measure => simp [intOf]; omega
            · by_cases h2 : (s[k + 1].toNat : Int) = 95
              · go_wp2_with fail
                refine (wbyte out 47 47 _ _ wr rfl hB (by omega) hbel.size).mono ?_
                rintro e w1 ⟨rfl, hB1, hb1⟩
                go_wp2
                go_roundw
                case rel => exact ⟨k + 1 + 1, out ++ [47], by omega, by go_num, Pl.inv_low HI.out (by rw [HSZ.out]; exact hl1) (by rw [HC.out]; exact u8_of _ 64 h64 (by decide)) (by rw [HC1.out]; exact u8_of _ 95 h2 (by decide)), by simp; omega, hB1, hbel.trans hb1⟩
                case measure => simp [intOf]; omega
              · go_wp2_with fail
                refine (errorf2 s wr.heap.size _ (by simp)).mono ?_
                rintro e w1 ⟨⟨v, rfl⟩, hb1⟩
                go_wp2
                go_ret2
                exact ⟨.inr ⟨v, Pl.inv_bad HI.out (by rw [HSZ.out]; exact hlt) (by rw [HC.out]; exact u8_of _ 64 h64 (by decide)) (fun _ => by rw [HC1.out]; exact ⟨u8_ne _ 64 h1 (by decide), u8_ne _ 95 h2 (by decide)⟩), rfl⟩, (hbel.alloc (by have := hbel.size; omega) _).trans (hb1.mono (by have := hbel.size; simp; omega))⟩
          · have HL : Hid (¬ k + 1 < s.size) := hl1
            go_wp2_with fail
            refine (errorf2 s wr.heap.size _ (by simp)).mono ?_
            rintro e w1 ⟨⟨v, rfl⟩, hb1⟩
            go_wp2
            go_ret2
            exact ⟨.inr ⟨v, Pl.inv_bad HI.out (by rw [HSZ.out]; exact hlt) (by rw [HC.out]; exact u8_of _ 64 h64 (by decide)) (fun h => by rw [HSZ.out] at h; exact absurd h HL.out), rfl⟩, (hbel.alloc (by have := hbel.size; omega) _).trans (hb1.mono (by have := hbel.size; simp; omega))⟩
        · go_wp2_with fail
          refine (wbyte out s[k] _ _ _ wr rfl hB (by omega) hbel.size).mono ?_
          rintro e w1 ⟨rfl, hB1, hb1⟩
          go_wp2
          go_roundw
          case rel => exact ⟨k + 1, out ++ [s[k]], by omega, by go_num, Pl.inv_plain HI.out (by rw [HSZ.out]; exact hlt) HC.out (u8_ne _ 47 h47 (by decide)) (u8_ne _ 64 h64 (by decide)), by simp; omega, hB1, hbel.trans hb1⟩
          case measure => simp [intOf]; omega
    · obtain rfl : s.size = k := by omega
      go_wp2_with fail
      refine (Tryf.Builder_String_any _ _ out wr hB hbel.size).mono ?_
      rintro e w1 ⟨rfl, hb1⟩
      go_wp2
      go_ret2
      exact ⟨.inl ⟨out, Pl.inv_end (by rw [HSZ.out]; exact HI.out), rfl⟩, hbel.trans hb1⟩
end Go.Proofs.Qxb6605778aFmt
