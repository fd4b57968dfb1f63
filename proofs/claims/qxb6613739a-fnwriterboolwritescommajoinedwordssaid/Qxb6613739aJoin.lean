import Derived.Test.Qxb6613739aWords
namespace Go.Proofs.Qxb6613739a
open Go.RowKit
set_option linter.unusedVariables false
set_option linter.unusedSimpArgs false

theorem below_app {N n : Nat} {o : Obj} {v : Value} {xs : List Value} {w wr w2 : World} (hb : Below N w wr) (hs : N ≤ wr.heap.size) (ho : wr.ownsRow N 5 1 v n xs) (hg : (wr.alloc o).grownBy w2 v.ownBlock) : Below N w w2 :=
  (hb.alloc hs o).grown hg (by simp; omega) (fun k hk => (ho.lt k hk).1)

set_option maxHeartbeats 3200000 in
theorem join_main (S : Nat → Bool) (b off n cap z : Nat) (w : World) (hn0 : 0 < n) (hn : n ≤ 65536) (hz : z ≤ 65536) (hb : b < w.heap.size) (hc : ∀ i, i < n → w.cell? ⟨b, off + i, none⟩ = some (.bool (S i))) :
    Calls Try.prog 3 #[.slice (some ⟨b, off, none⟩) n cap, .int .i64 (z : Int)] w fun e w' => e = .returned (.bool true) ∧ Below w.heap.size w w' := by
  have HC : Hid (∀ i, i < n → w.cell? ⟨b, off + i, none⟩ = some (.bool (S i))) := hc
  clear hc
  have hn' : (n : Int) ≤ 65536 := by omega
  have hz' : (z : Int) ≤ 65536 := by omega
  obtain ⟨i0, hi, hz0, hz1, hz2⟩ := info_parts Try.info5
  have hneq := run_neq_ptr
  go_enter Try.func3, Try.ntmps3
  go_wp2_with fail
  refine (bytes7 _ n cap z w (by unfold maxLen; omega)).mono ?_
  rw [decide_eq_true (show n ≤ 1048576 by omega)]
  rintro e w0 ⟨rfl, rfl⟩
  go_wp2_with fail
  refine (new8 z (by omega) w0).mono ?_
  rintro e w1 ⟨wb, rfl, hW, hb1⟩
  have HW : Hid (Wr w0.heap.size wb [] false w1) := hW
  have HB1 : Hid (Below w0.heap.size w0 w1) := hb1
  clear hW hb1
  go_wp2
  go_loopw [6] (fun i wr => ∃ k : Nat, k ≤ n ∧ i = .int .i64 k ∧ Wr w0.heap.size wb (jn S k) (decide (0 < k)) wr ∧ Below w0.heap.size w0 wr) (fun i _ => n - (intOf i).toNat)
  case atStart => exact ⟨0, Nat.zero_le _, rfl, HW.out, HB1.out⟩
  case round =>
    clear HW HB1
    obtain ⟨k, hk, rfl, hW, hB⟩ := hrel
    have hlen := jn_length S k
    have hsz := hB.size
    by_cases hlt : k < n
    · have hcx : wr.cell? ⟨b, off + k, none⟩ = some (.bool (S k)) := (hB.cell (p := ⟨b, _, none⟩) hb).trans (HC.out k hlt)
      have hi1 : (k : Int) < (n : Int) := by omega
      go_wp2_with fail
      refine (bool9 w0.heap.size wb (jn S k) (decide (0 < k)) (S k) wr hsz hW (by omega)).mono ?_
      rintro e w2 ⟨rfl, hW2, hb2⟩
      have HW2 : Hid (Wr w0.heap.size wb (jn S (k + 1)) (decide (0 < k + 1)) w2) := by
        show Wr w0.heap.size wb (jn S (k + 1)) (decide (0 < k + 1)) w2
        rw [decide_eq_true (show 0 < k + 1 by omega)]
        exact hW2
      have HB2 : Hid (Below w0.heap.size w0 w2) := hB.trans hb2
      clear hW2 hb2 hW hB
      go_wp2
      go_roundw
      case rel => exact ⟨k + 1, by omega, by go_num, HW2.out, HB2.out⟩
      case measure => simp [intOf]; omega
    · rename World => wo
      replace hW : Wr w0.heap.size wb (jn S n) true wo := by
        have ek : k = n := by omega
        rw [ek, decide_eq_true hn0] at hW
        exact hW
      have HW : Hid (Wr w0.heap.size wb (jn S n) true wo) := hW
      have HB : Hid (Below w0.heap.size w0 wo) := hB
      have hmk := run_room (6 * n) (by omega) (6 * (n : Int)) (by omega)
      have HS0 : Hid ((wo.alloc (.cells (zeros (6 * n)) 5)).ownsRow wo.heap.size 5 1 (.slice (some ⟨wo.heap.size, 0, none⟩) 0 (6 * n)) 0 []) := World.ownsRow_made (base := wo.heap.size) (e := 5) (size := 1) wo (zeros (6 * n)) (6 * n) (Nat.le_refl _) (by unfold maxLen; omega) (by simp [zeros])
      clear hW hB hlen
      go_wp2
      clear hmk
      go_loopw [7, 8] (fun sv i wx => ∃ k : Nat, k ≤ n ∧ i = .int .i64 k ∧ (∃ a c, sv = .slice a (jn S k).length c ∧ wx.ownsRow wo.heap.size 5 1 (.slice a (jn S k).length c) (jn S k).length (Lib.byteCells (jn S k))) ∧ Below wo.heap.size wo wx) (fun _ i _ => n - (intOf i).toNat)
      case atStart => exact ⟨0, Nat.zero_le _, rfl, ⟨_, _, rfl, HS0.out⟩, (Below.refl _ _).alloc (Nat.le_refl _) _⟩
      case round =>
        clear HS0
        obtain ⟨q, hq, rfl, ⟨sa, sc, rfl, hO⟩, hB⟩ := hrel
        have hlen := jn_length S q
        have hwo := hB.size
        have hbo : b < wo.heap.size := Nat.lt_of_lt_of_le hb HB.out.size
        by_cases hlt : q < n
        · have hcx : wr.cell? ⟨b, off + q, none⟩ = some (.bool (S q)) := (hB.cell (p := ⟨b, _, none⟩) hbo).trans ((HB.out.cell (p := ⟨b, _, none⟩) hb).trans (HC.out q hlt))
          have hi1 : (q : Int) < (n : Int) := by omega
          have hw5 := word_pos (S q)
          have HO : Hid (wr.ownsRow wo.heap.size 5 1 (.slice sa (jn S q).length sc) (jn S q).length (Lib.byteCells (jn S q))) := hO
          have HBr : Hid (Below wo.heap.size wo wr) := hB
          have hOA := hO.alloc (.cells #[.int .u8 44] 5)
          clear hO hB
          by_cases h0 : 0 < q
          · have h0' : (0 : Int) < (q : Int) := by omega
            go_wp2_with (at_builtin; go_must (refine wpList_append_lies _ rfl _ _ 27 rfl wo.heap.size 5 i0 (.int .u8 0) 1 1 Try.underlying27 hi hz0 hz1 hz2 rfl (by omega) (.slice sa (jn S q).length sc) (jn S q).length (Lib.byteCells (jn S q)) rfl hOA ⟨wr.heap.size, 0, none⟩ 1 1 [.int .u8 44] rfl rfl (cell_one_new _ _ _) (by intro u hu; simp at hu; subst hu; rfl) (by omega) (by unfold maxLen; omega) (by omega) (by simp; omega) (wr.heap.size + 1) (by simp) ?_; intro g c2 w2 hown2 hgrow hat2 hlt2; have hb2 := below_app HBr.out hwo HO.out hgrow; have hcx2 := (hb2.cell (p := ⟨b, off + q, none⟩) hbo).trans ((HBr.out.cell (p := ⟨b, off + q, none⟩) hbo).symm.trans hcx); have hs2 := hb2.size; clear hat2 hcx hOA))
            refine (word10 (S q) w2).mono ?_
            rintro e w3 ⟨rfl, rfl⟩
            go_wp2_with (at_builtin; go_must (refine Lib.wpList_append_own_string _ rfl _ _ 27 9 rfl wo.heap.size 5 i0 Try.underlying27 Try.underlying9 hi hz0 hz1 hz2 (.slice (some ⟨g, 0, none⟩) ((jn S q).length + 1) c2) ((jn S q).length + 1) _ rfl hown2 (word (S q)) rfl (by unfold maxLen; omega) (by omega) hs2 ?_; intro v' w4 hown4 hgrow4 _))
            go_roundw
            case rel =>
              obtain ⟨a4, c4, rfl⟩ := own_shape hown4
              have e1 : jn S (q + 1) = jn S q ++ [44] ++ (word (S q)).data.toList := by show jn S q ++ (if decide (0 < q) then [44] else []) ++ _ = _; rw [decide_eq_true h0]; rfl
              have e2 : (jn S (q + 1)).length = (jn S q).length + 1 + (word (S q)).size := by rw [e1, Lib.size_eq]; simp; omega
              refine ⟨q + 1, by omega, by go_num, ⟨a4, c4, by rw [e2], ?_⟩, hb2.grown hgrow4 hs2 (fun k hk => (hown2.lt k hk).1)⟩
              rw [e2, e1, Lib.byteCells_append, byteCells_snoc]
              exact hown4
            case measure => simp [intOf]; omega
          · have h0' : ¬ (0 : Int) < (q : Int) := by omega
            go_wp2_with fail
            refine (word10 (S q) wr).mono ?_
            rintro e w3 ⟨rfl, rfl⟩
            go_wp2_with (at_builtin; go_must (refine Lib.wpList_append_own_string _ rfl _ _ 27 9 rfl wo.heap.size 5 i0 Try.underlying27 Try.underlying9 hi hz0 hz1 hz2 (.slice sa (jn S q).length sc) (jn S q).length _ rfl HO.out (word (S q)) rfl (by unfold maxLen; omega) (by omega) hwo ?_; intro v' w4 hown4 hgrow4 _))
            go_roundw
            case rel =>
              obtain ⟨a4, c4, rfl⟩ := own_shape hown4
              have e1 : jn S (q + 1) = jn S q ++ (word (S q)).data.toList := by show jn S q ++ (if decide (0 < q) then [44] else []) ++ _ = _; rw [decide_eq_false h0]; simp
              have e2 : (jn S (q + 1)).length = (jn S q).length + (word (S q)).size := by rw [e1, Lib.size_eq]; simp
              refine ⟨q + 1, by omega, by go_num, ⟨a4, c4, by rw [e2], ?_⟩, HBr.out.grown hgrow4 hwo (fun k hk => (HO.out.lt k hk).1)⟩
              rw [e2, e1, Lib.byteCells_append]
              exact hown4
            case measure => simp [intOf]; omega
        · replace hO : wr.ownsRow wo.heap.size 5 1 (.slice sa (jn S q).length sc) (jn S n).length (Lib.byteCells (jn S n)) := by
            have ek : q = n := by omega
            rw [ek] at hO ⊢
            exact hO
          have hWx := HW.out.below (N := 0) hB
          obtain ⟨bv, hr, ho⟩ := hWx.now
          have c0 : wr.cell? ⟨wb, 0, none⟩ = some bv := by rw [cell_of_row _ _ _ _ _ _ hr]; rfl
          have c1 : wr.cell? ⟨wb, 1, none⟩ = some (.bool true) := by rw [cell_of_row _ _ _ _ _ _ hr]; rfl
          have c2 : wr.cell? ⟨wb, 2, none⟩ = some .nilIface := by rw [cell_of_row _ _ _ _ _ _ hr]; rfl
          have hbF := HB.out.trans (hB.mono HB.out.size)
          have hlen2 := jn_length S n
          have hnp : (0 : Int) < (n : Int) := by omega
          clear hr hWx
          go_wp2_with fail
          refine (buf12 wb bv wr c0).mono ?_
          rintro e w3 ⟨rfl, rfl⟩
          go_wp2_with fail
          refine (equal11 w0.heap.size wo.heap.size bv _ (jn S n) w3 (by omega) ho hO).mono ?_
          rintro e w4 ⟨rfl, nq, rfl⟩
          go_wp2_with fail
          refine (more13 wb true (w3.drewN nq) (by simpa using c1)).mono ?_
          rintro e w5 ⟨rfl, rfl⟩
          go_wp2_with fail
          refine (err14 wb (w3.drewN nq) (by simpa using c2)).mono ?_
          rintro e w5 ⟨rfl, rfl⟩
          go_wp2
          go_ret
          exact ⟨rfl, hbF.trans ⟨rfl, rfl, rfl, Nat.le_refl _, fun _ _ => rfl⟩⟩

end Go.Proofs.Qxb6613739a
