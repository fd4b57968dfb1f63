import Derived.Test.Qxb6613739aRows
import Derived.WalkKit
import Derived.Deep.QuietTactic
import Derived.BigQuiet
import Derived.Lib.SlBytesRow
namespace Go.Proofs.Qxb6613739a
open Go.RowKit
set_option linter.unusedVariables false
set_option linter.unusedSimpArgs false

/-- The reader stands with an error at where it is. -/
theorem stands30 (rb : Nat) (p : Int) (m : ByteArray) (e0 : Value) (w : World) (hrb : rb < w.heap.size) (c1 : w.cell? ⟨rb, 1, none⟩ = some (.int .i64 p)) (c2 : w.cell? ⟨rb, 2, none⟩ = some e0) (f2 : w.frozen? ⟨rb, 2, none⟩ = false) :
    Calls Try.prog 30 #[.pointer (some ⟨rb, 0, none⟩), .string m] w fun e w' => e = .returned (.tuple #[]) ∧ w' = (w.setCell ⟨rb, 2, none⟩ (.iface 42 (.pointer (some ⟨w.heap.size, 0, none⟩)))).alloc (.cells #[.int .i64 p, .string m] 45) := by
  go_enter Try.func30, Try.ntmps30
  go_wp2
  go_end0
  exact ⟨rfl, rfl⟩

/-- The world behind a literal that was refused. -/
def Refused (rb p : Nat) (w w' : World) : Prop := ∃ m nq, w' = ((w.drewN nq).setCell ⟨rb, 2, none⟩ (.iface 42 (.pointer (some ⟨w.heap.size, 0, none⟩)))).alloc (.cells #[.int .i64 (p : Int), .string m] 45)
/-- The world behind a literal that was read. -/
def Passed (rb p : Nat) (w w' : World) : Prop := ∃ nq, w' = (w.drewN nq).setCell ⟨rb, 1, none⟩ (.int .i64 (p : Int))

set_option maxHeartbeats 1600000 in
/-- literal where the text is too short. -/
theorem lit_short (rb n p cap : Nat) (a : Option Addr) (s : ByteArray) (e0 : Value) (w : World) (hs : s.size ≤ 100000) (hn : n ≤ 1000000) (hp : p ≤ n) (hsh : n < p + s.size) (hrb : rb < w.heap.size)
    (c0 : w.cell? ⟨rb, 0, none⟩ = some (.slice a n cap)) (c1 : w.cell? ⟨rb, 1, none⟩ = some (.int .i64 (p : Int))) (c2 : w.cell? ⟨rb, 2, none⟩ = some e0) (f2 : w.frozen? ⟨rb, 2, none⟩ = false) :
    Calls Try.prog 28 #[.pointer (some ⟨rb, 0, none⟩), .string s] w fun e w' => e = .returned (.bool false) ∧ Refused rb p w w' := by
  have hd : (n : Int) - (p : Int) < (s.size : Int) := by omega
  go_enter Try.func28, Try.ntmps28
  go_wp2
  go_quiet (fail)
  go_wp2_with fail
  refine (stands30 rb p _ e0 (w.drewN nq) (by simpa using hrb) (by simpa using c1) (by simpa using c2) (by simpa using f2)).mono ?_
  rintro e w1 ⟨rfl, rfl⟩
  go_wp2
  go_ret
  exact ⟨rfl, _, nq, rfl⟩

set_option maxHeartbeats 1600000 in
/-- literal where the text is long enough, and the reader does not stand at its end. -/
theorem lit_long (rb g p : Nat) (T s : ByteArray) (e0 : Value) (w : World) (hs : s.size ≤ 100000) (hn : T.size ≤ 1000000) (hp : p < T.size) (hle : p + s.size ≤ T.size) (hrb : rb < w.heap.size)
    (c0 : w.cell? ⟨rb, 0, none⟩ = some (.slice (some ⟨g, 0, none⟩) T.size T.size)) (c1 : w.cell? ⟨rb, 1, none⟩ = some (.int .i64 (p : Int))) (f1 : w.frozen? ⟨rb, 1, none⟩ = false) (c2 : w.cell? ⟨rb, 2, none⟩ = some e0) (f2 : w.frozen? ⟨rb, 2, none⟩ = false) (hT : Lib.Bytes w g 0 T)
    (hb : ((T.extract p (p + s.size)).toList == s.toList) = true) :
    Calls Try.prog 28 #[.pointer (some ⟨rb, 0, none⟩), .string s] w fun e w' => e = .returned (.bool true) ∧ Passed rb (p + s.size) w w' := by
  have hd : (s.size : Int) ≤ (T.size : Int) - (p : Int) := by omega
  have hcv : ∀ nq, (convert 27 9 (.slice (some ⟨g, p, none⟩) s.size (T.size - p))).run Try.prog (w.drewN nq) = .ok (.string (T.extract p (p + s.size))) (w.drewN nq) := fun nq => by
    have := Lib.run_convert_window (P := Try.prog) (w.drewN nq) 27 5 9 Try.underlying27 Try.underlying5 Try.underlying9 g 0 T (hT.drewN nq) p s.size (T.size - p) hle
    rwa [Nat.zero_add] at this
  clear hT
  have hdd : decide ((T.size : Int) - (p : Int) < (s.size : Int)) = false := decide_eq_false (by omega)
  have hne : ¬ T.size = p := by omega
  go_enter Try.func28, Try.ntmps28
  go_wp2
  go_quiet (fail)
  go_wp2
  go_ret
  exact ⟨rfl, nq, rfl⟩

set_option maxHeartbeats 1600000 in
/-- literal where the text is long enough, but other. -/
theorem lit_other (rb g p : Nat) (T s : ByteArray) (e0 : Value) (w : World) (hs : s.size ≤ 100000) (hn : T.size ≤ 1000000) (hp : p < T.size) (hle : p + s.size ≤ T.size) (hrb : rb < w.heap.size)
    (c0 : w.cell? ⟨rb, 0, none⟩ = some (.slice (some ⟨g, 0, none⟩) T.size T.size)) (c1 : w.cell? ⟨rb, 1, none⟩ = some (.int .i64 (p : Int))) (f1 : w.frozen? ⟨rb, 1, none⟩ = false) (c2 : w.cell? ⟨rb, 2, none⟩ = some e0) (f2 : w.frozen? ⟨rb, 2, none⟩ = false) (hT : Lib.Bytes w g 0 T)
    (hb : ((T.extract p (p + s.size)).toList == s.toList) = false) :
    Calls Try.prog 28 #[.pointer (some ⟨rb, 0, none⟩), .string s] w fun e w' => e = .returned (.bool false) ∧ Refused rb p w w' := by
  have hd : (s.size : Int) ≤ (T.size : Int) - (p : Int) := by omega
  have hcv : ∀ nq, (convert 27 9 (.slice (some ⟨g, p, none⟩) s.size (T.size - p))).run Try.prog (w.drewN nq) = .ok (.string (T.extract p (p + s.size))) (w.drewN nq) := fun nq => by
    have := Lib.run_convert_window (P := Try.prog) (w.drewN nq) 27 5 9 Try.underlying27 Try.underlying5 Try.underlying9 g 0 T (hT.drewN nq) p s.size (T.size - p) hle
    rwa [Nat.zero_add] at this
  clear hT
  have hdd : decide ((T.size : Int) - (p : Int) < (s.size : Int)) = false := decide_eq_false (by omega)
  have hne : ¬ T.size = p := by omega
  go_enter Try.func28, Try.ntmps28
  go_wp2
  go_quiet (fail)
  go_wp2_with fail
  refine (stands30 rb p _ e0 (w.drewN nq) (by simpa using hrb) (by simpa using c1) (by simpa using c2) (by simpa using f2)).mono ?_
  rintro e w1 ⟨rfl, rfl⟩
  go_wp2
  go_ret
  exact ⟨rfl, _, nq, rfl⟩

theorem empty_of {s : ByteArray} (hs : s.size = 0) : s.toList.isEmpty = true := by
  have e1 : s.data.toList = [] := by rw [← List.length_eq_zero_iff, ← Lib.size_eq]; exact hs
  rw [Lib.toList_data, e1]
  rfl

set_option maxHeartbeats 1600000 in
/-- The empty literal at the text's end. -/
theorem lit_end (rb g n : Nat) (T s : ByteArray) (w : World) (hs : s.size = 0) (hT : Lib.Bytes w g 0 T) (hnT : T.size = n) (hn : n ≤ 1000000) (hrb : rb < w.heap.size)
    (c0 : w.cell? ⟨rb, 0, none⟩ = some (.slice (some ⟨g, 0, none⟩) n n)) (c1 : w.cell? ⟨rb, 1, none⟩ = some (.int .i64 (n : Int))) (f1 : w.frozen? ⟨rb, 1, none⟩ = false) :
    Calls Try.prog 28 #[.pointer (some ⟨rb, 0, none⟩), .string s] w fun e w' => e = .returned (.bool true) ∧ Passed rb n w w' := by
  have hcv : ∀ nq, (convert 27 9 (.slice (some ⟨g, 0, none⟩) 0 0)).run Try.prog (w.drewN nq) = .ok (.string (T.extract 0 0)) (w.drewN nq) := fun nq => by
    exact Lib.run_convert_window (P := Try.prog) (w.drewN nq) 27 5 9 Try.underlying27 Try.underlying5 Try.underlying9 g 0 T (hT.drewN nq) 0 0 0 (by omega)
  have hb : s.toList.isEmpty = true := empty_of hs
  have hd : (s.size : Int) = 0 := by omega
  clear hT hnT
  go_enter Try.func28, Try.ntmps28
  go_wp2
  go_quiet (fail)
  go_wp2
  go_ret
  exact ⟨rfl, nq, rfl⟩

set_option maxHeartbeats 1600000 in
/-- The empty literal in no text. -/
theorem lit_nil (rb : Nat) (s : ByteArray) (w : World) (hs : s.size = 0) (hrb : rb < w.heap.size)
    (c0 : w.cell? ⟨rb, 0, none⟩ = some (.slice none 0 0)) (c1 : w.cell? ⟨rb, 1, none⟩ = some (.int .i64 0)) (f1 : w.frozen? ⟨rb, 1, none⟩ = false) :
    Calls Try.prog 28 #[.pointer (some ⟨rb, 0, none⟩), .string s] w fun e w' => e = .returned (.bool true) ∧ Passed rb 0 w w' := by
  have hcv : ∀ nq, (convert 27 9 (.slice none 0 0)).run Try.prog (w.drewN nq) = .ok (.string ByteArray.empty) (w.drewN nq) := fun nq => run_convert_bytes_nil (w.drewN nq) 27 5 Try.underlying27 Try.underlying5 0 0 9 Try.underlying9
  have hb : s.toList.isEmpty = true := empty_of hs
  have hd : (s.size : Int) = 0 := by omega
  go_enter Try.func28, Try.ntmps28
  go_wp2
  go_quiet (fail)
  go_wp2
  go_ret
  exact ⟨rfl, nq, rfl⟩

end Go.Proofs.Qxb6613739a
