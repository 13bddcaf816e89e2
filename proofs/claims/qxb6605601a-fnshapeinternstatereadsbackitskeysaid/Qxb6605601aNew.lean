/-
  ZZnewShapeMachine: a fresh machine of 263 cells.
-/
import Derived.Test.Qxb6605601aKeys
namespace Go.Proofs.Qxb6605601a
open Go.RowKit Go.Maps

def Z63 : Array Value := #[.pointer none] ++ Array.replicate 256 (.int .u8 0) ++ #[.int .i64 0]
def Z65 : Array Value := Z63 ++ #[.slice none 0 0]
def Z69 : Array Value := #[.pointer none, .slice none 0 0, .slice none 0 0, .map none] ++ Z65
def Y65 (n : Int) : Array Value := #[.pointer none] ++ Array.replicate 256 (.int .u8 0) ++ #[.int .i64 n] ++ #[.slice none 0 0]
def Y69 (n : Int) (g : Nat) : Array Value := #[.pointer none, .slice none 0 0, .slice none 0 0, .map (some g)] ++ Y65 n

theorem fresh_facts : ∃ (A63 A65 A69 : Array Value) (B65 : Int → Array Value) (C69 : Int → Nat → Array Value),
    (∀ w, (zeroValue 63).run Try.prog w = .ok (.agg A63) w) ∧ A63.size = 258 ∧ (∀ w, (zeroValue 65).run Try.prog w = .ok (.agg A65) w) ∧ A65.size = 259 ∧ (∀ w, (zeroValue 69).run Try.prog w = .ok (.agg A69) w) ∧ A69.size = 263 ∧
    (∀ n, Array.foldl (fun cs x => cs.setIfInBounds x.snd x.fst) A65 (A63.setIfInBounds 257 (.int .i64 n)).zipIdx 0 258 = B65 n) ∧ (∀ n, (B65 n).size = 259) ∧
    (∀ n g, Array.foldl (fun cs x => cs.setIfInBounds (4 + x.snd) x.fst) (A69.setIfInBounds 3 (.map (some g))) (B65 n).zipIdx 0 259 = C69 n g) ∧ (∀ n g, (C69 n g).size = 263) ∧
    (∀ n g, (C69 n g)[2]? = some (.slice none 0 0)) ∧ (∀ n g, (C69 n g)[3]? = some (.map (some g))) ∧ (∀ n g, (C69 n g)[261]? = some (.int .i64 n)) ∧ (∀ n g, (C69 n g)[262]? = some (.slice none 0 0)) :=
  ⟨Z63, Z65, Z69, Y65, Y69, fun w => by kernel_rfl, by kernel_rfl, fun w => by kernel_rfl, by kernel_rfl, fun w => by kernel_rfl, by kernel_rfl, fun n => by kernel_rfl, fun n => by kernel_rfl, fun n g => by kernel_rfl, fun n g => by kernel_rfl,
    fun n g => by kernel_rfl, fun n g => by kernel_rfl, fun n g => by kernel_rfl, fun n g => by kernel_rfl⟩

set_option maxRecDepth 100000 in
set_option maxHeartbeats 400000 in
theorem new_any (n : Int) (w : World) :
    Calls Try.prog 19 #[.int .i64 n] w fun e w' => e = .returned (.pointer (some ⟨w.heap.size + 1, 0, none⟩)) ∧ ∃ C : Array Value, w' = (w.alloc (.map #[] 0)).alloc (.cells C 69) ∧ C.size = 263 ∧ C[2]? = some (.slice none 0 0) ∧ C[3]? = some (.map (some w.heap.size)) ∧ C[261]? = some (.int .i64 n) ∧ C[262]? = some (.slice none 0 0) := by
  have hmm := @run_makeMap Try.prog
  obtain ⟨A63, A65, A69, B65, C69, z1, s1, z2, s2, z3, s3, e1, s4, e2, s5, r1, r2, r3, r4⟩ := fresh_facts
  have HR : Hid ((C69 n w.heap.size).size = 263 ∧ (C69 n w.heap.size)[2]? = some (.slice none 0 0) ∧ (C69 n w.heap.size)[3]? = some (.map (some w.heap.size)) ∧ (C69 n w.heap.size)[261]? = some (.int .i64 n) ∧ (C69 n w.heap.size)[262]? = some (.slice none 0 0)) := ⟨s5 _ _, r1 _ _, r2 _ _, r3 _ _, r4 _ _⟩
  clear r1 r2 r3 r4
  go_enter Try.func19, Try.ntmps19
  go_wp2_with fail
  go_ret
  exact ⟨rfl, _, rfl, HR.out⟩
end Go.Proofs.Qxb6605601a
