import Derived.Test.Qxb6613739aPair
namespace Go.Proofs.Qxb6613739a
open Go.RowKit
set_option linter.unusedVariables false
set_option linter.unusedSimpArgs false

set_option maxHeartbeats 3200000 in
theorem split_main (a0 : Option Addr) (cap : Nat) (T s : ByteArray) (k : Nat) (w : World) (hT : T.size ≤ 65536) (hs : s.size ≤ 65536) (hk : k ≤ s.size) (ha : ArgIs w a0 cap T) :
    Calls Try.prog 5 #[.slice a0 T.size cap, .string s, .int .i64 (k : Int)] w fun e w' => e = .returned (.bool true) ∧ Below w.heap.size w w' := by
  have HC := clone_any a0 cap T w (by omega) ha
  have HC' : Hid (Calls Try.prog 18 #[.slice a0 T.size cap] w fun e w' => ∃ a c, e = .returned (.slice a T.size c) ∧ TextIs w' (.slice a T.size c) T ∧ Below w.heap.size w w') := HC
  clear HC ha
  have hT' : (T.size : Int) ≤ 65536 := by omega
  have hs' : (s.size : Int) ≤ 65536 := by omega
  have hk' : (k : Int) ≤ (s.size : Int) := by omega
  go_enter Try.func5, Try.ntmps5
  go_wp2_with fail
  refine (bytes17 a0 T.size cap s k w (by unfold maxLen; omega) (by unfold maxLen; omega)).mono ?_
  rw [decide_eq_true (show T.size + s.size ≤ 1048576 by omega)]
  rintro e w0 ⟨rfl, rfl⟩
  go_wp2_with fail
  refine HC'.out.mono ?_
  rintro e w1 ⟨a, c, rfl, ht, hb1⟩
  clear HC'
  go_wp2_with fail
  refine (new_any a T.size c w1).mono ?_
  rintro e w2 ⟨r1, rfl, hn1⟩
  go_wp2_with fail
  refine (new_any a T.size c w2).mono ?_
  rintro e w3 ⟨r2, rfl, hn2⟩
  obtain ⟨hne, hr1, hr2, s1, s2, hP⟩ := pair_new ht hn1 hn2
  have hb3 : Below w0.heap.size w0 w3 := by
    have q1 := hb1.size
    have q2 := hn1.below.size
    exact (hb1.trans (hn1.below.mono q1)).trans (hn2.below.mono (by omega))
  have hR1 : w0.heap.size ≤ r1 := Nat.le_trans hb1.size hr1
  have hR2 : w0.heap.size ≤ r2 := Nat.le_trans hb1.size hr2
  clear hn1 hn2 ht hb1 hr1 hr2
  go_wp2_with fail
  refine (lit20 r1 0 _ _ s1 T s w3 hP.one hP.text (Nat.zero_le _) (by omega) (by omega)).mono ?_
  rintro e w4 ⟨rfl, hl1⟩
  have hb4 := hb3.trans (hl1.below.mono hR1)
  have hq := pair_one hP (Ne.symm hne) hl1
  have hsp := hit_split T s k hk
  obtain ⟨z1, z2⟩ := ext_sizes s k hk
  have HZ1 : Hid ((s.extract 0 k).size = k) := z1
  have HZ2 : Hid ((s.extract k s.size).size = s.size - k) := z2
  clear hP hl1 hb3 z1 z2
  cases hA : hitB T 0 (s.extract 0 k)
  · rw [hA, Bool.false_and] at hsp
    obtain ⟨e1, hP, hE1⟩ := hq.2 hsp
    rw [hsp]
    clear hq
    have HSP : Hid (hitB T 0 s = false) := hsp
    have HA : Hid (hitB T 0 (s.extract 0 k) = false) := hA
    clear hsp hA
    go_wp2_with fail
    refine (lit20 r2 0 _ _ s2 T (s.extract 0 k) w4 hP.two hP.text (Nat.zero_le _) (by omega) (by rw [HZ1.out]; omega)).mono ?_
    rw [HA.out]
    rintro e w5 ⟨rfl, hl2⟩
    have hbL := hb4.trans (hl2.below.mono hR2)
    have hE1 := hl2.err hP.two hE1
    obtain ⟨e2, hP, hE2⟩ := (pair_two hP hne hl2).2 HA.out
    clear hl2 hb4
    go_wp2_with fail
    refine (opens21 _ T s w5 hP.text (by omega) (by omega)).mono ?_
    rw [HSP.out]
    rintro e w7 ⟨rfl, n1, rfl⟩
    go_wp2_with fail
    refine (opens21 _ T (s.extract 0 k) (w5.drewN n1) (hP.drewN n1).text (by omega) (by rw [HZ1.out]; omega)).mono ?_
    rw [HA.out]
    rintro e w7 ⟨rfl, n2, rfl⟩
    obtain ⟨c1, c2, c3, c4⟩ := (hP.drewN (n1 + n2)).cells
    go_wp2_with fail
    refine (at22 r1 _ _ c1).mono ?_
    rintro e w7 ⟨rfl, rfl⟩
    go_wp2_with fail
    refine (at22 r2 _ _ c2).mono ?_
    rintro e w7 ⟨rfl, rfl⟩
    obtain ⟨b1, m1, rfl, hB1⟩ := hE1
    obtain ⟨b2, m2, rfl, hB2⟩ := hE2
    have d1 : (w5.drewN (n1 + n2)).cell? ⟨b1, 0, none⟩ = some (.int .i64 0) := by rw [cell_of_row _ _ _ _ _ _ (show (w5.drewN (n1 + n2)).heap[b1]? = _ from hB1)]; rfl
    have d2 : (w5.drewN (n1 + n2)).cell? ⟨b2, 0, none⟩ = some (.int .i64 (0 : Int)) := by rw [cell_of_row _ _ _ _ _ _ (show (w5.drewN (n1 + n2)).heap[b2]? = _ from hB2)]; rfl
    go_wp2_with fail
    refine (syn24 r1 b1 _ c3).mono ?_
    rintro e w8 ⟨rfl, rfl⟩
    go_wp2_with fail
    refine (syn24 r2 b2 _ c4).mono ?_
    rintro e w8 ⟨rfl, rfl⟩
    go_wp2
    go_ret
    exact ⟨rfl, hbL.trans (below_drewN' _ _ _)⟩
  · cases hB : hitB T k (s.extract k s.size)
    · rw [hA, hB, Bool.and_false] at hsp
      obtain ⟨e1, hP, hE1⟩ := hq.2 hsp
      rw [hsp]
      clear hq
      have HSP : Hid (hitB T 0 s = false) := hsp
      have HA : Hid (hitB T 0 (s.extract 0 k) = true) := hA
      have HB : Hid (hitB T k (s.extract k s.size) = false) := hB
      have hkT : k ≤ T.size := by
        have h := hA
        unfold hitB at h
        have := (of_decide_eq_true h).1
        rw [HZ1.out] at this
        omega
      clear hsp hA hB
      go_wp2_with fail
      refine (lit20 r2 0 _ _ s2 T (s.extract 0 k) w4 hP.two hP.text (Nat.zero_le _) (by omega) (by rw [HZ1.out]; omega)).mono ?_
      rw [HA.out]
      rintro e w5 ⟨rfl, hl2⟩
      have hb5 := hb4.trans (hl2.below.mono hR2)
      have hE1 := hl2.err hP.two hE1
      have hP := (pair_two hP hne hl2).1 HA.out
      rw [HZ1.out, Nat.zero_add] at hP
      clear hl2 hb4
      go_wp2_with fail
      refine (lit20 r2 k _ _ s2 T (s.extract k s.size) w5 hP.two hP.text hkT (by omega) (by rw [HZ2.out]; omega)).mono ?_
      rw [HB.out]
      rintro e w6 ⟨rfl, hl2⟩
      have hbL := hb5.trans (hl2.below.mono hR2)
      have hE1 := hl2.err hP.two hE1
      obtain ⟨e2, hP, hE2⟩ := (pair_two hP hne hl2).2 HB.out
      clear hl2 hb5
      go_wp2_with fail
      refine (opens21 _ T s w6 hP.text (by omega) (by omega)).mono ?_
      rw [HSP.out]
      rintro e w7 ⟨rfl, n1, rfl⟩
      go_wp2_with fail
      refine (opens21 _ T (s.extract 0 k) (w6.drewN n1) (hP.drewN n1).text (by omega) (by rw [HZ1.out]; omega)).mono ?_
      rw [HA.out]
      rintro e w7 ⟨rfl, n2, rfl⟩
      obtain ⟨c1, c2, c3, c4⟩ := (hP.drewN (n1 + n2)).cells
      go_wp2_with fail
      refine (at22 r1 _ _ c1).mono ?_
      rintro e w7 ⟨rfl, rfl⟩
      go_wp2_with fail
      refine (at22 r2 _ _ c2).mono ?_
      rintro e w7 ⟨rfl, rfl⟩
      obtain ⟨b1, m1, rfl, hB1⟩ := hE1
      obtain ⟨b2, m2, rfl, hB2⟩ := hE2
      have d1 : (w6.drewN (n1 + n2)).cell? ⟨b1, 0, none⟩ = some (.int .i64 0) := by rw [cell_of_row _ _ _ _ _ _ (show (w6.drewN (n1 + n2)).heap[b1]? = _ from hB1)]; rfl
      have d2 : (w6.drewN (n1 + n2)).cell? ⟨b2, 0, none⟩ = some (.int .i64 (k : Int)) := by rw [cell_of_row _ _ _ _ _ _ (show (w6.drewN (n1 + n2)).heap[b2]? = _ from hB2)]; rfl
      go_wp2_with fail
      refine (syn24 r1 b1 _ c3).mono ?_
      rintro e w8 ⟨rfl, rfl⟩
      go_wp2_with fail
      refine (syn24 r2 b2 _ c4).mono ?_
      rintro e w8 ⟨rfl, rfl⟩
      go_wp2
      go_ret
      exact ⟨rfl, hbL.trans (below_drewN' _ _ _)⟩
    · rw [hA, hB, Bool.and_true] at hsp
      have hP := hq.1 hsp
      rw [Nat.zero_add] at hP
      rw [hsp]
      clear hq
      have HSP : Hid (hitB T 0 s = true) := hsp
      have HA : Hid (hitB T 0 (s.extract 0 k) = true) := hA
      have HB : Hid (hitB T k (s.extract k s.size) = true) := hB
      have hkT : k ≤ T.size := by
        have h := hA
        unfold hitB at h
        have := (of_decide_eq_true h).1
        rw [HZ1.out] at this
        omega
      clear hsp hA hB
      go_wp2_with fail
      refine (lit20 r2 0 _ _ s2 T (s.extract 0 k) w4 hP.two hP.text (Nat.zero_le _) (by omega) (by rw [HZ1.out]; omega)).mono ?_
      rw [HA.out]
      rintro e w5 ⟨rfl, hl2⟩
      have hb5 := hb4.trans (hl2.below.mono hR2)
      have hP := (pair_two hP hne hl2).1 HA.out
      rw [HZ1.out, Nat.zero_add] at hP
      clear hl2 hb4
      go_wp2_with fail
      refine (lit20 r2 k _ _ s2 T (s.extract k s.size) w5 hP.two hP.text hkT (by omega) (by rw [HZ2.out]; omega)).mono ?_
      rw [HB.out]
      rintro e w6 ⟨rfl, hl2⟩
      have hbL := hb5.trans (hl2.below.mono hR2)
      have hP := (pair_two hP hne hl2).1 HB.out
      rw [HZ2.out, show k + (s.size - k) = s.size by omega] at hP
      clear hl2 hb5
      go_wp2_with fail
      refine (opens21 _ T s w6 hP.text (by omega) (by omega)).mono ?_
      rw [HSP.out]
      rintro e w7 ⟨rfl, n1, rfl⟩
      go_wp2_with fail
      refine (opens21 _ T (s.extract 0 k) (w6.drewN n1) (hP.drewN n1).text (by omega) (by rw [HZ1.out]; omega)).mono ?_
      rw [HA.out]
      rintro e w7 ⟨rfl, n2, rfl⟩
      obtain ⟨c1, c2, c3, c4⟩ := (hP.drewN (n1 + n2)).cells
      go_wp2_with fail
      refine (at22 r1 _ _ c1).mono ?_
      rintro e w7 ⟨rfl, rfl⟩
      go_wp2_with fail
      refine (at22 r2 _ _ c2).mono ?_
      rintro e w7 ⟨rfl, rfl⟩
      go_wp2_with fail
      refine (err23 r1 _ c3).mono ?_
      rintro e w8 ⟨rfl, rfl⟩
      go_wp2_with fail
      refine (err23 r2 _ c4).mono ?_
      rintro e w8 ⟨rfl, rfl⟩
      go_wp2
      go_ret
      exact ⟨rfl, hbL.trans (below_drewN' _ _ _)⟩

end Go.Proofs.Qxb6613739a
