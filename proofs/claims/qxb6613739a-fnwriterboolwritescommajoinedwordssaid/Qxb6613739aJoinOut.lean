import Derived.Test.Qxb6613739aJoin
namespace Go.Proofs.Qxb6613739a
open Go.RowKit
set_option linter.unusedVariables false
set_option linter.unusedSimpArgs false

set_option maxHeartbeats 1600000 in
/-- No bool. -/
theorem join_none (a0 : Option Addr) (cap z : Nat) (w : World) (hz : z ≤ 65536) :
    Calls Try.prog 3 #[.slice a0 0 cap, .int .i64 (z : Int)] w fun e w' => e = .returned (.bool true) ∧ Below w.heap.size w w' := by
  have hz' : (z : Int) ≤ 65536 := by omega
  go_enter Try.func3, Try.ntmps3
  go_wp2_with fail
  refine (bytes7 _ 0 cap z w (by unfold maxLen; omega)).mono ?_
  rw [decide_eq_true (show 0 ≤ 1048576 by omega)]
  rintro e w0 ⟨rfl, rfl⟩
  go_wp2_with fail
  refine (new8 z (by omega) w0).mono ?_
  rintro e w1 ⟨wb, rfl, hW, hb1⟩
  have hmk : ∀ w : World, (Instr.makeSlice 27 (.int .i64 0) (.int .i64 0)).run Try.prog w = .ok (.slice (some ⟨w.heap.size, 0, none⟩) 0 0) (w.alloc (.cells (zeros 0) 5)) := run_room 0 (by omega) 0 (by omega)
  have hO : (w1.alloc (.cells (zeros 0) 5)).ownsRow w1.heap.size 5 1 (.slice (some ⟨w1.heap.size, 0, none⟩) 0 0) 0 [] := World.ownsRow_made (base := w1.heap.size) (e := 5) (size := 1) w1 (zeros 0) 0 (Nat.le_refl _) (by unfold maxLen; omega) (by simp [zeros])
  have hb2 : Below w1.heap.size w1 (w1.alloc (.cells (zeros 0) 5)) := (Below.refl _ _).alloc (Nat.le_refl _) _
  have hWx := hW.below (N := 0) hb2
  obtain ⟨bv, hr, ho⟩ := hWx.now
  have c0 : (w1.alloc (.cells (zeros 0) 5)).cell? ⟨wb, 0, none⟩ = some bv := by rw [cell_of_row _ _ _ _ _ _ hr]; rfl
  have c1 : (w1.alloc (.cells (zeros 0) 5)).cell? ⟨wb, 1, none⟩ = some (.bool false) := by rw [cell_of_row _ _ _ _ _ _ hr]; rfl
  have c2 : (w1.alloc (.cells (zeros 0) 5)).cell? ⟨wb, 2, none⟩ = some .nilIface := by rw [cell_of_row _ _ _ _ _ _ hr]; rfl
  have hbF := hb1.trans (hb2.mono hb1.size)
  have C0 : Hid ((w1.alloc (.cells (zeros 0) 5)).cell? ⟨wb, 0, none⟩ = some bv) := c0
  have C1 : Hid ((w1.alloc (.cells (zeros 0) 5)).cell? ⟨wb, 1, none⟩ = some (.bool false)) := c1
  have C2 : Hid ((w1.alloc (.cells (zeros 0) 5)).cell? ⟨wb, 2, none⟩ = some .nilIface) := c2
  clear hr hWx hW hb1 hb2 c0 c1 c2
  go_wp2
  refine wp_loop_rounds 1 ?_
  rw [rounds_succ]
  go_wp2
  refine wp_loop_rounds 1 ?_
  rw [rounds_succ]
  go_wp2_with fail
  refine (buf12 wb bv _ C0.out).mono ?_
  rintro e w3 ⟨rfl, rfl⟩
  go_wp2_with fail
  refine (equal11 w0.heap.size w1.heap.size bv _ [] _ (by simp) ho hO).mono ?_
  rintro e w4 ⟨rfl, nq, rfl⟩
  go_wp2_with fail
  refine (more13 wb false _ (by simpa using C1.out)).mono ?_
  rintro e w5 ⟨rfl, rfl⟩
  go_wp2_with fail
  refine (err14 wb _ (by simpa using C2.out)).mono ?_
  rintro e w5 ⟨rfl, rfl⟩
  go_wp2
  go_ret
  exact ⟨rfl, hbF.trans ⟨rfl, rfl, rfl, Nat.le_refl _, fun _ _ => rfl⟩⟩

theorem join_out (a0 : Option Addr) (n cap : Nat) (z : Int) (w : World) (hn : n ≤ maxLen) (h : ¬ (n ≤ 65536 ∧ 0 ≤ z ∧ z ≤ 65536)) :
    Calls Try.prog 3 #[.slice a0 n cap, .int .i64 z] w fun e w' => e = .returned (.bool true) ∧ Below w.heap.size w w' := by
  by_cases h1 : n ≤ 1048576
  · by_cases h2 : 65536 < n
    · have h2' : (65536 : Int) < (n : Int) := by omega
      go_enter Try.func3, Try.ntmps3
      go_wp2_with fail
      refine (bytes7 a0 n cap z w hn).mono ?_
      rw [decide_eq_true h1]
      rintro e w0 ⟨rfl, rfl⟩
      go_wp2
      go_ret
      exact ⟨rfl, Below.refl _ _⟩
    have h2' : (n : Int) ≤ 65536 := by omega
    by_cases h4 : z < 0
    · go_enter Try.func3, Try.ntmps3
      go_wp2_with fail
      refine (bytes7 a0 n cap z w hn).mono ?_
      rw [decide_eq_true h1]
      rintro e w0 ⟨rfl, rfl⟩
      go_wp2
      go_ret
      exact ⟨rfl, Below.refl _ _⟩
    have h5 : 65536 < z := by omega
    go_enter Try.func3, Try.ntmps3
    go_wp2_with fail
    refine (bytes7 a0 n cap z w hn).mono ?_
    rw [decide_eq_true h1]
    rintro e w0 ⟨rfl, rfl⟩
    go_wp2
    go_ret
    exact ⟨rfl, Below.refl _ _⟩
  · go_enter Try.func3, Try.ntmps3
    go_wp2_with fail
    refine (bytes7 a0 n cap z w hn).mono ?_
    rw [decide_eq_false h1]
    rintro e w0 ⟨rfl, rfl⟩
    go_wp2
    go_ret
    exact ⟨rfl, Below.refl _ _⟩

end Go.Proofs.Qxb6613739a
