import Derived.Test.Qxb6613686aNew
namespace Go.Proofs.Qxb6613686a
open Go.RowKit
set_option linter.unusedVariables false
set_option linter.unusedSimpArgs false

theorem Try.info67 : (Try.prog.info? 67).map (fun i => i.zero.isSome) = some true := by kernel_rfl

theorem run_noReports (w : World) : (Instr.makeSlice 27 (.int .i64 0) (.int .i64 0)).run Try.prog w = .ok (.slice (some ⟨w.heap.size, 0, none⟩) 0 0) (w.alloc (.cells #[] 67)) := by
  obtain ⟨i, hi, hz⟩ := Option.map_eq_some_iff.1 Try.info67
  obtain ⟨z, hz'⟩ := Option.isSome_iff_exists.1 hz
  rw [run_make (P := Try.prog) w 27 67 i z Try.underlying27 hi hz' .i64 .i64 0 0 (by omega) (by omega) (by simp) (by omega)]
  simp [madeCells, Array.range_zero']

theorem reports_none (kb wb j n : Nat) (id : ByteArray) (w : World) (hj : j < n) (hn : n ≤ 65536) (hwb : wb < w.heap.size) (c0 : w.cell? ⟨kb, 0, none⟩ = some (.slice (some ⟨wb, 0, none⟩) n n)) (c1 : w.cell? ⟨wb, j * 7 + 1, none⟩ = some (.int .i64 0)) :
    Calls Try.prog 12 #[.pointer (some ⟨kb, 0, none⟩), .int .i64 (j : Int), .string id] w fun e w' => e = .returned (.slice (some ⟨w.heap.size, 0, none⟩) 0 0) ∧ w' = w.alloc (.cells #[] 67) := by
  have hmk := run_noReports
  have hj' : (j : Int) < (n : Int) := by omega
  go_enter Try.func12, Try.ntmps12
  go_wp2
  go_ret
  exact ⟨rfl, rfl⟩

theorem last_none (kb wb j n : Nat) (w : World) (hj : j < n) (hn : n ≤ 65536) (c0 : w.cell? ⟨kb, 0, none⟩ = some (.slice (some ⟨wb, 0, none⟩) n n)) (c1 : w.cell? ⟨wb, j * 7 + 6, none⟩ = some (.int .i32 (-1))) :
    Calls Try.prog 11 #[.pointer (some ⟨kb, 0, none⟩), .int .i64 (j : Int)] w fun e w' => e = .returned (.int .i32 (-1)) ∧ w' = w := by
  have hj' : (j : Int) < (n : Int) := by omega
  go_enter Try.func11, Try.ntmps11
  go_wp2
  go_ret
  exact ⟨rfl, rfl⟩

theorem workers_any (kb n cap : Nat) (a : Option Addr) (w : World) (c0 : w.cell? ⟨kb, 0, none⟩ = some (.slice a n cap)) :
    Calls Try.prog 10 #[.pointer (some ⟨kb, 0, none⟩)] w fun e w' => e = .returned (.int .i64 (n : Int)) ∧ w' = w := by
  go_enter Try.func10, Try.ntmps10
  go_wp2
  go_ret
  exact ⟨rfl, rfl⟩

theorem bytes8 (n : Int) (s : ByteArray) (w : World) (hs : s.size ≤ maxLen) :
    Calls Try.prog 8 #[.int .i64 n, .string s] w fun e w' => e = .returned (.bool (decide (s.size ≤ 1048576))) ∧ w' = w := by
  unfold maxLen at hs
  by_cases h : s.size ≤ 1048576
  · have h' : (s.size : Int) ≤ 1048576 := by omega
    rw [decide_eq_true h]
    go_enter Try.func8, Try.ntmps8
    go_wp2
    go_ret
    exact ⟨rfl, rfl⟩
  · have h' : (1048576 : Int) < s.size := by omega
    rw [decide_eq_false h]
    go_enter Try.func8, Try.ntmps8
    go_wp2
    go_ret
    exact ⟨rfl, rfl⟩

set_option maxHeartbeats 800000 in
theorem holds_main (n : Nat) (hn : n ≤ 65536) (id : ByteArray) (hs : id.size ≤ 65536) (w : World) :
    Calls Try.prog 3 #[.int .i64 (n : Int), .string id] w fun e w' => e = .returned (.bool true) ∧ Below w.heap.size w w' := by
  have hs' : (id.size : Int) ≤ 65536 := by omega
  go_enter Try.func3, Try.ntmps3
  go_wp2_with fail
  refine (bytes8 n id w (by unfold maxLen; omega)).mono ?_
  rw [decide_eq_true (show id.size ≤ 1048576 by omega)]
  rintro e w0 ⟨rfl, rfl⟩
  go_wp2_with fail
  refine (new_any n hn w0).mono ?_
  rintro e w1 ⟨rfl, hF⟩
  have hh := hF.holder
  have c0 : w1.cell? ⟨w0.heap.size + 2, 0, none⟩ = some (.slice (some ⟨w0.heap.size, 0, none⟩) n n) := by rw [cell_of_row _ _ _ _ _ _ hh]; rfl
  clear hh
  go_wp2_with fail
  refine (workers_any (w0.heap.size + 2) n n _ w1 c0).mono ?_
  rintro e w2 ⟨rfl, rfl⟩
  have hsz := hF.size
  have HF : Hid (Fresh n n w0 w2) := hF
  have HC : Hid (w2.cell? ⟨w0.heap.size + 2, 0, none⟩ = some (.slice (some ⟨w0.heap.size, 0, none⟩) n n)) := c0
  clear hF c0
  go_wp2
  go_loopw [6] (fun i wr => ∃ k : Nat, k ≤ n ∧ i = .int .i64 k ∧ Below (w0.heap.size + 3) w2 wr) (fun i _ => n - (intOf i).toNat)
  case atStart => exact ⟨0, Nat.zero_le _, rfl, Below.refl _ _⟩
  case round =>
    obtain ⟨k, hk, rfl, hb⟩ := hrel
    have hbs := hb.size
    by_cases hlt : k < n
    · obtain ⟨cur, hc, hr⟩ := HF.out.rows
      have c0 : wr.cell? ⟨w0.heap.size + 2, 0, none⟩ = some (.slice (some ⟨w0.heap.size, 0, none⟩) n n) := (hb.cell (p := ⟨w0.heap.size + 2, 0, none⟩) (by simp)).trans HC.out
      have c1 : wr.cell? ⟨w0.heap.size, k * 7 + 1, none⟩ = some (.int .i64 0) := (hb.cell (p := ⟨w0.heap.size, _, none⟩) (by simp)).trans (by rw [cell_of_row _ _ _ _ _ _ hc]; exact hr.rows k hlt)
      have c6 : wr.cell? ⟨w0.heap.size, k * 7 + 6, none⟩ = some (.int .i32 (-1)) := (hb.cell (p := ⟨w0.heap.size, _, none⟩) (by simp)).trans (by rw [cell_of_row _ _ _ _ _ _ hc]; exact hr.done k hlt hlt)
      clear hc hr
      go_wp2_with fail
      refine (last_none (w0.heap.size + 2) w0.heap.size k n wr hlt hn c0 c6).mono ?_
      rintro e w3 ⟨rfl, rfl⟩
      go_wp2_with fail
      refine (reports_none (w0.heap.size + 2) w0.heap.size k n id w3 hlt hn (by omega) c0 c1).mono ?_
      rintro e w4 ⟨rfl, rfl⟩
      go_wp2
      go_roundw
      case rel => exact ⟨k + 1, by omega, by go_num, hb.alloc (by omega) _⟩
      case measure => simp [intOf]; omega
    · go_wp2
      go_ret
      exact ⟨rfl, HF.out.below.trans (hb.mono (by omega))⟩

theorem holds_out (a0 : Int) (id : ByteArray) (hm : id.size ≤ maxLen) (h : a0 < 0 ∨ 65536 < a0 ∨ 65536 < id.size) (w : World) :
    Calls Try.prog 3 #[.int .i64 a0, .string id] w fun e w' => e = .returned (.bool true) ∧ Below w.heap.size w w' := by
  by_cases h1 : id.size ≤ 1048576
  · by_cases h2 : id.size ≤ 65536
    · have h2' : (id.size : Int) ≤ 65536 := by omega
      by_cases h3 : a0 < 0
      · go_enter Try.func3, Try.ntmps3
        go_wp2_with fail
        refine (bytes8 a0 id w hm).mono ?_
        rw [decide_eq_true h1]
        rintro e w0 ⟨rfl, rfl⟩
        go_wp2
        go_ret
        exact ⟨rfl, Below.refl _ _⟩
      · have h4 : 65536 < a0 := by omega
        go_enter Try.func3, Try.ntmps3
        go_wp2_with fail
        refine (bytes8 a0 id w hm).mono ?_
        rw [decide_eq_true h1]
        rintro e w0 ⟨rfl, rfl⟩
        go_wp2
        go_ret
        exact ⟨rfl, Below.refl _ _⟩
    · have h2' : (65536 : Int) < (id.size : Int) := by omega
      go_enter Try.func3, Try.ntmps3
      go_wp2_with fail
      refine (bytes8 a0 id w hm).mono ?_
      rw [decide_eq_true h1]
      rintro e w0 ⟨rfl, rfl⟩
      go_wp2
      go_ret
      exact ⟨rfl, Below.refl _ _⟩
  · go_enter Try.func3, Try.ntmps3
    go_wp2_with fail
    refine (bytes8 a0 id w hm).mono ?_
    rw [decide_eq_false h1]
    rintro e w0 ⟨rfl, rfl⟩
    go_wp2
    go_ret
    exact ⟨rfl, Below.refl _ _⟩

theorem holds_walk (a0 : Int) (id : ByteArray) (hm : id.size ≤ maxLen) (w : World) :
    Calls Try.prog 3 #[.int .i64 a0, .string id] w fun e w' => e = .returned (.bool true) ∧ Below w.heap.size w w' := by
  by_cases h : a0 < 0 ∨ 65536 < a0 ∨ 65536 < id.size
  · exact holds_out a0 id hm h w
  · obtain ⟨n, rfl⟩ : ∃ n : Nat, a0 = (n : Int) := ⟨a0.toNat, by omega⟩
    exact holds_main n (by omega) id (by omega) w

end Go.Proofs.Qxb6613686a
