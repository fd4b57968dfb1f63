import Derived.Test.Qxb6613739aBack
namespace Go.Proofs.Qxb6613739a
open Go.RowKit
set_option linter.unusedVariables false
set_option linter.unusedSimpArgs false

/-- The text around the word number k, a comma ahead of it. -/
theorem around_comma (S : Nat → Bool) (k n : Nat) (h : k < n) (h0 : 0 < k) :
    hitB (textOf (jn S n)) (jn S k).length ⟨#[44]⟩ = true ∧ hitB (textOf (jn S n)) ((jn S k).length + 1) (word (!S k)) = false ∧ hitB (textOf (jn S n)) ((jn S k).length + 1) (word (S k)) = true ∧
      (jn S (k + 1)).length = (jn S k).length + 1 + (word (S k)).size ∧ (jn S k).length + 1 ≤ (textOf (jn S n)).size := by
  obtain ⟨R, hR⟩ := jn_opens S (k + 1) n (by omega)
  have e1 : jn S (k + 1) = jn S k ++ [44] ++ (word (S k)).data.toList := by show jn S k ++ (if decide (0 < k) then [44] else []) ++ _ = _; rw [decide_eq_true h0]; rfl
  have t1 : (textOf (jn S n)).data.toList = jn S k ++ (⟨#[44]⟩ : ByteArray).data.toList ++ ((word (S k)).data.toList ++ R) := by
    rw [textOf_list, hR, e1]; simp
  have t2 : (textOf (jn S n)).data.toList = (jn S k ++ [44]) ++ (word (S k)).data.toList ++ R := by rw [textOf_list, hR, e1]
  have hl : (jn S k ++ [(44 : UInt8)]).length = (jn S k).length + 1 := by simp
  refine ⟨hit_at t1, ?_, ?_, ?_, ?_⟩
  · rw [← hl]; exact miss_at t2
  · rw [← hl]; exact hit_at t2
  · rw [e1, Lib.size_eq]; simp; omega
  · rw [textOf_size, hR, e1]; simp

/-- The text around the first word. -/
theorem around_first (S : Nat → Bool) (k n : Nat) (h : k < n) (h0 : ¬ 0 < k) :
    hitB (textOf (jn S n)) (jn S k).length (word (!S k)) = false ∧ hitB (textOf (jn S n)) (jn S k).length (word (S k)) = true ∧ (jn S (k + 1)).length = (jn S k).length + (word (S k)).size ∧ (jn S k).length ≤ (textOf (jn S n)).size := by
  obtain ⟨R, hR⟩ := jn_opens S (k + 1) n (by omega)
  have e1 : jn S (k + 1) = jn S k ++ (word (S k)).data.toList := by show jn S k ++ (if decide (0 < k) then [44] else []) ++ _ = _; rw [decide_eq_false h0]; simp
  have t2 : (textOf (jn S n)).data.toList = jn S k ++ (word (S k)).data.toList ++ R := by rw [textOf_list, hR, e1]
  refine ⟨miss_at t2, hit_at t2, ?_, ?_⟩
  · rw [e1, Lib.size_eq]; simp
  · rw [textOf_size, hR, e1]; simp

set_option maxHeartbeats 3200000 in
set_option maxRecDepth 100000 in
theorem back_main (S : Nat → Bool) (b off n cap : Nat) (w : World) (hn0 : 0 < n) (hn : n ≤ 65536) (hb : b < w.heap.size) (hc : ∀ i, i < n → w.cell? ⟨b, off + i, none⟩ = some (.bool (S i))) :
    Calls Try.prog 6 #[.slice (some ⟨b, off, none⟩) n cap] w fun e w' => e = .returned (.bool true) ∧ Below w.heap.size w w' := by
  have HC : Hid (∀ i, i < n → w.cell? ⟨b, off + i, none⟩ = some (.bool (S i))) := hc
  clear hc
  have hn' : (n : Int) ≤ 65536 := by omega
  go_enter Try.func6, Try.ntmps6
  go_wp2_with fail
  refine (bytes25 _ n cap w (by unfold maxLen; omega)).mono ?_
  rw [decide_eq_true (show n ≤ 1048576 by omega)]
  rintro e w0 ⟨rfl, rfl⟩
  go_wp2_with fail
  refine (new8 0 (by omega) w0).mono ?_
  rintro e w1 ⟨wb, rfl, hW, hb1⟩
  have HW : Hid (Wr w0.heap.size wb [] false w1) := hW
  have HB1 : Hid (Below w0.heap.size w0 w1) := hb1
  clear hW hb1
  go_wp2
  go_loopw [4] (fun i wr => ∃ k : Nat, k ≤ n ∧ i = .int .i64 k ∧ Wr w0.heap.size wb (jn S k) (decide (0 < k)) wr ∧ Below w0.heap.size w0 wr) (fun i _ => n - (intOf i).toNat)
  case atStart => exact ⟨0, Nat.zero_le _, rfl, HW.out, HB1.out⟩
  case round =>
    clear HW HB1
    obtain ⟨k, hk, rfl, hW, hB⟩ := hrel
    have hlen := jn_length S k
    have hsz := hB.size
    by_cases hlt : k < n
    · have hcx : wr.cell? ⟨b, off + k, none⟩ = some (.bool (S k)) := (hB.cell (p := ⟨b, _, none⟩) hb).trans (HC.out k hlt)
      have hi1 : (k : Int) < (n : Int) := by omega
      go_wp2_with fail
      refine (bool9 w0.heap.size wb (jn S k) (decide (0 < k)) (S k) wr hsz hW (by omega)).mono ?_
      rintro e w2 ⟨rfl, hW2, hb2⟩
      have HW2 : Hid (Wr w0.heap.size wb (jn S (k + 1)) (decide (0 < k + 1)) w2) := by
        show Wr w0.heap.size wb (jn S (k + 1)) (decide (0 < k + 1)) w2
        rw [decide_eq_true (show 0 < k + 1 by omega)]
        exact hW2
      have HB2 : Hid (Below w0.heap.size w0 w2) := hB.trans hb2
      clear hW2 hb2 hW hB
      go_wp2
      go_roundw
      case rel => exact ⟨k + 1, by omega, by go_num, HW2.out, HB2.out⟩
      case measure => simp [intOf]; omega
    · rename World => wo
      replace hW : Wr w0.heap.size wb (jn S n) true wo := by
        have ek : k = n := by omega
        rw [ek, decide_eq_true hn0] at hW
        exact hW
      obtain ⟨bv, hr, ho⟩ := hW.now
      have c0 : wo.cell? ⟨wb, 0, none⟩ = some bv := by rw [cell_of_row _ _ _ _ _ _ hr]; rfl
      obtain ⟨a, cp, rfl, hA⟩ := arg_of_own ho
      have hlenn := jn_length S n
      have hTs := textOf_size (jn S n)
      have HB : Hid (Below w0.heap.size w0 wo) := hB
      have HA := clone_any a cp (textOf (jn S n)) wo (by omega) hA
      have HA' : Hid (Calls Try.prog 18 #[.slice a (textOf (jn S n)).size cp] wo fun e w' => ∃ a c, e = .returned (.slice a (textOf (jn S n)).size c) ∧ TextIs w' (.slice a (textOf (jn S n)).size c) (textOf (jn S n)) ∧ Below wo.heap.size wo w') := HA
      have HTs : Hid ((textOf (jn S n)).size = (jn S n).length) := hTs
      have hTb : (textOf (jn S n)).size ≤ 393216 := by omega
      clear hr ho hW hB hlen HA hA hTs
      go_wp2_with fail
      refine (buf12 wb _ wo c0).mono ?_
      rintro e w3 ⟨rfl, rfl⟩
      clear c0
      go_wp2_with fail
      refine HA'.out.mono ?_
      rintro e w4 ⟨ta, tc, rfl, ht, hb4⟩
      clear HA'
      go_wp2_with fail
      refine (new_any ta _ tc w4).mono ?_
      rintro e w5 ⟨r, rfl, hR⟩
      have hb5 : Below w0.heap.size w0 w5 := by
        have q1 := HB.out.size
        have q2 := hb4.size
        exact (HB.out.trans (hb4.mono q1)).trans (hR.below.mono (by omega))
      have hrr : w0.heap.size ≤ r := by
        have q1 := HB.out.size
        have q2 := hb4.size
        have q3 := hR.new
        omega
      obtain ⟨sc, hR1⟩ := hR.now
      have hRd : RdAt r 0 (.slice ta (textOf (jn S n)).size tc) (textOf (jn S n)) w5 := ⟨⟨_, sc, hR1⟩, ht.below hR.below⟩
      have HRd : Hid (RdAt r 0 (.slice ta (textOf (jn S n)).size tc) (textOf (jn S n)) w5) := hRd
      have HB5 : Hid (Below w0.heap.size w0 w5) := hb5
      clear hRd hb5 hR1 hR ht hb4
      go_wp2
      go_loopw [7, 8] (fun ps i wx => ∃ k : Nat, k ≤ n ∧ i = .int .i64 k ∧ ps = .int .i64 ((jn S k).length : Int) ∧ RdAt r (jn S k).length (.slice ta (textOf (jn S n)).size tc) (textOf (jn S n)) wx ∧ Below w0.heap.size w0 wx) (fun _ i _ => n - (intOf i).toNat)
      case atStart => exact ⟨0, Nat.zero_le _, rfl, rfl, HRd.out, HB5.out⟩
      case round =>
        clear HRd HB5
        obtain ⟨q, hq, rfl, rfl, hRd, hB⟩ := hrel
        have hlen := jn_length S q
        by_cases hlt : q < n
        · have hcx : wr.cell? ⟨b, off + q, none⟩ = some (.bool (S q)) := (hB.cell (p := ⟨b, _, none⟩) hb).trans (HC.out q hlt)
          have hi1 : (q : Int) < (n : Int) := by omega
          have hw5 := word_pos (S q)
          have hw6 := word_pos (!S q)
          by_cases h0 : 0 < q
          · obtain ⟨t1, t2, t3, t4, t5⟩ := around_comma S q n hlt h0
            have h0' : (0 : Int) < (q : Int) := by omega
            have T4 : Hid ((jn S (q + 1)).length = (jn S q).length + 1 + (word (S q)).size) := t4
            clear t4
            go_wp2_with fail
            refine (rd_yes r _ _ _ ⟨#[44]⟩ wr hRd (by omega) (by omega) (by decide) t1).mono ?_
            rintro e w6 ⟨rfl, hRd6, hb6⟩
            have hB6 := hB.trans (hb6.mono hrr)
            clear hRd hb6 hB t1 hcx
            replace hRd6 : RdAt r ((jn S q).length + 1) (.slice ta (textOf (jn S n)).size tc) (textOf (jn S n)) w6 := hRd6
            go_wp2_with fail
            refine (at22 r _ w6 hRd6.cell).mono ?_
            rintro e w7 ⟨rfl, rfl⟩
            have hcx : w7.cell? ⟨b, off + q, none⟩ = some (.bool (S q)) := (hB6.cell (p := ⟨b, _, none⟩) hb).trans (HC.out q hlt)
            go_wp2_with fail
            refine (word10 (!S q) w7).mono ?_
            rintro e wA ⟨rfl, rfl⟩
            go_wp2_with fail
            refine (rd_no r _ _ _ (word (!S q)) wA hRd6 (by omega) (by omega) (by omega) t2).mono ?_
            rintro e wB ⟨eb, rfl, hRdB, hbB, cB, dB⟩
            have hBB := hB6.trans (hbB.mono hrr)
            have cat := hRdB.cell
            have hcy : wB.cell? ⟨b, off + q, none⟩ = some (.bool (S q)) := (hBB.cell (p := ⟨b, _, none⟩) hb).trans (HC.out q hlt)
            clear hRd6 hbB hB6 t2 hcx
            go_wp2_with fail
            refine (syn24 r eb wB cB).mono ?_
            rintro e wC ⟨rfl, rfl⟩
            go_wp2_with fail
            refine (at22 r _ wC cat).mono ?_
            rintro e wC2 ⟨rfl, rfl⟩
            go_wp2_with fail
            refine (word10 (S q) wC2).mono ?_
            rintro e wD ⟨rfl, rfl⟩
            go_wp2_with fail
            refine (rd_yes r _ _ _ (word (S q)) wD hRdB (by omega) (by omega) (by omega) t3).mono ?_
            rintro e wE ⟨rfl, hRdE, hbE⟩
            have hBE := hBB.trans (hbE.mono hrr)
            clear hRdB hbE hBB t3 cB dB cat hcy
            go_wp2_with fail
            refine (at22 r _ wE hRdE.cell).mono ?_
            rintro e wF ⟨rfl, rfl⟩
            go_wp2
            go_roundw
            case rel =>
              refine ⟨q + 1, by omega, by go_num, ?_, ?_, hBE⟩
              · rw [T4.out]; go_num
              · rw [T4.out]; exact hRdE
            case measure => simp [intOf]; omega
          · obtain ⟨t2, t3, t4, t5⟩ := around_first S q n hlt h0
            have h0' : ¬ (0 : Int) < (q : Int) := by omega
            have T4 : Hid ((jn S (q + 1)).length = (jn S q).length + (word (S q)).size) := t4
            clear t4
            go_wp2_with fail
            refine (word10 (!S q) wr).mono ?_
            rintro e wA ⟨rfl, rfl⟩
            go_wp2_with fail
            refine (rd_no r _ _ _ (word (!S q)) wA hRd (by omega) (by omega) (by omega) t2).mono ?_
            rintro e wB ⟨eb, rfl, hRdB, hbB, cB, dB⟩
            have hBB := hB.trans (hbB.mono hrr)
            have cat := hRdB.cell
            have hcy : wB.cell? ⟨b, off + q, none⟩ = some (.bool (S q)) := (hBB.cell (p := ⟨b, _, none⟩) hb).trans (HC.out q hlt)
            clear hRd hbB hB t2 hcx
            go_wp2_with fail
            refine (syn24 r eb wB cB).mono ?_
            rintro e wC ⟨rfl, rfl⟩
            go_wp2_with fail
            refine (at22 r _ wC cat).mono ?_
            rintro e wC2 ⟨rfl, rfl⟩
            go_wp2_with fail
            refine (word10 (S q) wC2).mono ?_
            rintro e wD ⟨rfl, rfl⟩
            go_wp2_with fail
            refine (rd_yes r _ _ _ (word (S q)) wD hRdB (by omega) (by omega) (by omega) t3).mono ?_
            rintro e wE ⟨rfl, hRdE, hbE⟩
            have hBE := hBB.trans (hbE.mono hrr)
            clear hRdB hbE hBB t3 cB dB cat hcy
            go_wp2_with fail
            refine (at22 r _ wE hRdE.cell).mono ?_
            rintro e wF ⟨rfl, rfl⟩
            go_wp2
            go_roundw
            case rel =>
              refine ⟨q + 1, by omega, by go_num, ?_, ?_, hBE⟩
              · rw [T4.out]; go_num
              · rw [T4.out]; exact hRdE
            case measure => simp [intOf]; omega
        · have hTq : (((textOf (jn S n)).size : Int) == ((jn S q).length : Int)) = true := by
            have ek : q = n := by omega
            rw [ek, HTs.out]
            simp
          go_wp2_with fail
          refine (at22 r _ wr hRd.cell).mono ?_
          rintro e wF ⟨rfl, rfl⟩
          go_wp2
          go_ret
          exact ⟨rfl, hB⟩

set_option maxHeartbeats 1600000 in
/-- No bool. -/
theorem back_none (a0 : Option Addr) (cap : Nat) (w : World) :
    Calls Try.prog 6 #[.slice a0 0 cap] w fun e w' => e = .returned (.bool true) ∧ Below w.heap.size w w' := by
  go_enter Try.func6, Try.ntmps6
  go_wp2_with fail
  refine (bytes25 _ 0 cap w (by unfold maxLen; omega)).mono ?_
  rw [decide_eq_true (show 0 ≤ 1048576 by omega)]
  rintro e w0 ⟨rfl, rfl⟩
  go_wp2_with fail
  refine (new8 0 (by omega) w0).mono ?_
  rintro e w1 ⟨wb, rfl, hW, hb1⟩
  obtain ⟨bv, hr, ho⟩ := hW.now
  have c0 : w1.cell? ⟨wb, 0, none⟩ = some bv := by rw [cell_of_row _ _ _ _ _ _ hr]; rfl
  obtain ⟨a, cp, rfl, hA⟩ := arg_of_own ho
  have HA := clone_any a cp (textOf []) w1 (by rw [textOf_size]; simp) hA
  have e0 : (textOf []).size = 0 := rfl
  rw [e0] at HA c0
  have HA' : Hid (Calls Try.prog 18 #[.slice a 0 cp] w1 fun e w' => ∃ a c, e = .returned (.slice a 0 c) ∧ TextIs w' (.slice a 0 c) (textOf []) ∧ Below w1.heap.size w1 w') := HA
  clear HA hA hr ho hW e0
  go_wp2
  refine wp_loop_rounds 1 ?_
  rw [rounds_succ]
  go_wp2_with fail
  refine (buf12 wb _ w1 c0).mono ?_
  rintro e w3 ⟨rfl, rfl⟩
  clear c0
  go_wp2_with fail
  refine HA'.out.mono ?_
  rintro e w4 ⟨ta, tc, rfl, ht, hb4⟩
  clear HA' ht
  go_wp2_with fail
  refine (new_any ta _ tc w4).mono ?_
  rintro e w5 ⟨r, rfl, hR⟩
  have hb5 : Below w0.heap.size w0 w5 := by
    have q1 := hb1.size
    have q2 := hb4.size
    exact (hb1.trans (hb4.mono q1)).trans (hR.below.mono (by omega))
  obtain ⟨sc, hR1⟩ := hR.now
  have c1 : w5.cell? ⟨r, 1, none⟩ = some (.int .i64 0) := by rw [cell_of_row _ _ _ _ _ _ hR1]; rfl
  clear hR hR1 hb4 hb1
  go_wp2
  refine wp_loop_rounds 1 ?_
  rw [rounds_succ]
  go_wp2_with fail
  refine (at22 r 0 w5 c1).mono ?_
  rintro e wF ⟨rfl, rfl⟩
  go_wp2
  go_ret
  exact ⟨rfl, hb5⟩

theorem back_out (a0 : Option Addr) (n cap : Nat) (w : World) (hn : n ≤ maxLen) (h : 65536 < n) :
    Calls Try.prog 6 #[.slice a0 n cap] w fun e w' => e = .returned (.bool true) ∧ Below w.heap.size w w' := by
  have h2' : (65536 : Int) < (n : Int) := by omega
  by_cases h1 : n ≤ 1048576
  · go_enter Try.func6, Try.ntmps6
    go_wp2_with fail
    refine (bytes25 a0 n cap w hn).mono ?_
    rw [decide_eq_true h1]
    rintro e w0 ⟨rfl, rfl⟩
    go_wp2
    go_ret
    exact ⟨rfl, Below.refl _ _⟩
  · go_enter Try.func6, Try.ntmps6
    go_wp2_with fail
    refine (bytes25 a0 n cap w hn).mono ?_
    rw [decide_eq_false h1]
    rintro e w0 ⟨rfl, rfl⟩
    go_wp2
    go_ret
    exact ⟨rfl, Below.refl _ _⟩

end Go.Proofs.Qxb6613739a
