import Derived.Test.Qxb6613686aEmpWalk
namespace Go.Proofs.Qxb6613686a
open Go.RowKit Go.Maps Go.WideMaps
set_option linter.unusedVariables false
set_option linter.unusedSimpArgs false

set_option maxHeartbeats 1600000 in
/-- The two lists are not of one length. -/
theorem law_apart (S : Nat → ByteArray) (b off n cap m cap2 : Nat) (a2 : Option Addr) (w : World) (hn : n ≤ maxLen) (hm : m ≤ maxLen) (hne : m ≠ n)
    (hS : ∀ i, i < n → (S i).size ≤ maxLen) (hc : ∀ i, i < n → w.cell? ⟨b, off + i, none⟩ = some (.string (S i))) :
    Calls Try.prog 5 #[.slice (some ⟨b, off, none⟩) n cap, .slice a2 m cap2] w fun e w' => e = .returned (.bool true) ∧ Below w.heap.size w w' := by
  have HC : Hid (∀ i, i < n → w.cell? ⟨b, off + i, none⟩ = some (.string (S i))) := hc
  have HB := bytes16 S b off n cap m cap2 a2 w hn hm hS hc
  have HB' : Hid (Calls Try.prog 16 #[.slice (some ⟨b, off, none⟩) n cap, .slice a2 m cap2] w fun e w' => SaysShort S n e ∧ w' = w) := HB
  clear hc hS HB
  unfold maxLen at hn hm
  have hne' : ((m : Int) != (n : Int)) = true := by simp; omega
  have HNE : Hid (m ≠ n) := hne
  clear hne
  go_enter Try.func5, Try.ntmps5
  go_wp2_with fail
  refine HB'.out.mono ?_
  rintro e w' ⟨⟨v, rfl, hv⟩, rfl⟩
  clear HB'
  cases v
  · clear hv
    go_wp2
    go_ret
    exact ⟨rfl, Below.refl _ _⟩
  have HS : Hid (∀ i, i < n → (S i).size ≤ 1048576) := hv rfl
  clear hv
  by_cases hn1 : 1024 < n
  · have hn1' : (1024 : Int) < (n : Int) := by omega
    go_wp2
    go_ret
    exact ⟨rfl, Below.refl _ _⟩
  have hn2' : (n : Int) ≤ 1024 := by omega
  by_cases hm1 : 1024 < m
  · have hm1' : (1024 : Int) < (m : Int) := by omega
    go_wp2
    go_ret
    exact ⟨rfl, Below.refl _ _⟩
  have hm2' : (m : Int) ≤ 1024 := by omega
  go_wp2
  go_loop [5, 6] (fun t i => ∃ k : Nat, k ≤ n ∧ i = .int .i64 k ∧ ∃ z : Int, 0 ≤ z ∧ z ≤ 1048576 ∧ t = .int .i64 z) (fun _ i => n - (intOf i).toNat)
  case atStart => exact ⟨0, Nat.zero_le _, rfl, 8 * (m : Int), by omega, by omega, rfl⟩
  case round =>
    obtain ⟨k, hk, rfl, z, hz0', hz1', rfl⟩ := hrel
    by_cases hlt : k < n
    · have hcx := HC.out k hlt
      have hs := HS.out k hlt
      have hi' : (k : Int) < (n : Int) := by omega
      by_cases h2 : z + ((S k).size : Int) ≤ 1048576
      · go_wp2
        go_round
        case rel => exact ⟨k + 1, by omega, by go_num, z + ((S k).size : Int), by omega, by omega, rfl⟩
        case measure => simp [intOf]; omega
      · go_wp2
        go_ret
        exact ⟨rfl, Below.refl _ _⟩
    go_wp2
    go_ret
    exact ⟨rfl, Below.refl _ _⟩

set_option maxHeartbeats 1600000 in
/-- There is no id. -/
theorem law_none (a1 a2 : Option Addr) (cap m cap2 : Nat) (w : World) (hm : m ≤ maxLen) :
    Calls Try.prog 5 #[.slice a1 0 cap, .slice a2 m cap2] w fun e w' => e = .returned (.bool true) ∧ Below w.heap.size w w' := by
  have HB := bytes16_none a1 cap m cap2 a2 w hm
  have HB' : Hid (Calls Try.prog 16 #[.slice a1 0 cap, .slice a2 m cap2] w fun e w' => SaysShort (fun _ => ByteArray.empty) 0 e ∧ w' = w) := HB
  clear HB
  unfold maxLen at hm
  go_enter Try.func5, Try.ntmps5
  go_wp2_with fail
  refine HB'.out.mono ?_
  rintro e w' ⟨⟨v, rfl, hv⟩, rfl⟩
  clear HB' hv
  cases v
  · go_wp2
    go_ret
    exact ⟨rfl, Below.refl _ _⟩
  by_cases hm1 : 1024 < m
  · have hm1' : (1024 : Int) < (m : Int) := by omega
    go_wp2
    go_ret
    exact ⟨rfl, Below.refl _ _⟩
  have hm2' : (m : Int) ≤ 1024 := by omega
  by_cases h0 : m = 0
  · subst h0
    have hmk1 : ∀ w : World, (Instr.makeSlice 33 (.int .i64 0) (.int .i64 0)).run Try.prog w = .ok (.slice (some ⟨w.heap.size, 0, none⟩) 0 0) (w.alloc (.cells (scells 0) 9)) := run_seen 0 (by omega)
    have hmk2 : ∀ w : World, (Instr.makeSlice 34 (.int .i64 0) (.int .i64 0)).run Try.prog w = .ok (.slice (some ⟨w.heap.size, 0, none⟩) 0 0) (w.alloc (.cells (madeCells #[.int .i32 0] 0) 21)) := run_make_row' (P := Try.prog) 34 21 (.int .i32 0) 4 Try.underlying34 Try.info21 rfl .i64 .i64 0 (by omega) (by omega)
    go_wp2
    refine wp_loop_rounds 1 ?_
    rw [rounds_succ]
    go_wp2
    refine wp_loop_rounds 1 ?_
    rw [rounds_succ]
    go_wp2_with fail
    refine (new_any 0 (by omega) _).mono ?_
    rintro e w3 ⟨rfl, hF⟩
    have hb := hF.below
    clear hF
    go_wp2
    refine wp_loop_rounds 1 ?_
    rw [rounds_succ]
    go_wp2
    go_ret
    exact ⟨rfl, (((Below.refl _ _).alloc (Nat.le_refl _) _).alloc (by simp) _).trans (hb.mono (by simp; omega))⟩
  · have hne' : ((m : Int) != 0) = true := by simp; omega
    go_wp2
    refine wp_loop_rounds 1 ?_
    rw [rounds_succ]
    go_wp2
    go_ret
    exact ⟨rfl, Below.refl _ _⟩

end Go.Proofs.Qxb6613686a
