import Derived.Test.Qxb6613686aEmpLaw
namespace Go.Proofs.Qxb6613686a
open Go.RowKit Go.Maps Go.WideMaps
set_option linter.unusedVariables false
set_option linter.unusedSimpArgs false

theorem want_kept {B k : Nat} {u : Value} {o : Obj} {w1 w2 : World} (hs : B + 2 ≤ w1.heap.size) (hc : w1.cell? ⟨B + 1, k, none⟩ = some u) (hf : w1.frozen? ⟨B + 1, k, none⟩ = false) (hg : (w1.alloc o).grownBy w2 (some B)) :
    w2.cell? ⟨B + 1, k, none⟩ = some u ∧ w2.frozen? ⟨B + 1, k, none⟩ = false := by
  have hb : w2.heap[B + 1]? = w1.heap[B + 1]? := by
    rw [hg.block (B + 1) (by simp; omega) (by simp), Below.heap_alloc _ _ _ (by omega)]
  exact ⟨(World.cell?_of_block (a := ⟨B + 1, k, none⟩) hb).trans hc, (World.frozen?_of_block (a := ⟨B + 1, k, none⟩) hb).trans hf⟩

theorem emp_drew {kb mb B : Nat} {es : List ByteArray} {w : World} (h : Emp kb mb B es w) : Emp kb mb B es w.drew := ⟨h.size, h.kbB, h.mbB, h.now⟩
theorem below_undrew {N : Nat} {w w' : World} (h : Below N w.drew w') : Below N w w' := ⟨h.os, h.tape, h.output, h.size, h.block⟩

theorem cells_kept {N kb mb B : Nat} {es : List ByteArray} {w w' : World} {b1 b2 b3 o1 o2 o3 : Nat} {v1 v2 v3 : Value} (hb1 : b1 < N) (hb2 : b2 < N) (hb3 : b3 < N) (h : EmpBy N kb mb B es w.drew w')
    (c1 : w.cell? ⟨b1, o1, none⟩ = some v1) (c2 : w.cell? ⟨b2, o2, none⟩ = some v2) (c3 : w.cell? ⟨b3, o3, none⟩ = some v3) :
    w'.cell? ⟨b1, o1, none⟩ = some v1 ∧ w'.cell? ⟨b2, o2, none⟩ = some v2 ∧ w'.cell? ⟨b3, o3, none⟩ = some v3 :=
  have hb := below_undrew h.below
  ⟨(hb.cell (p := ⟨b1, o1, none⟩) hb1).trans c1, (hb.cell (p := ⟨b2, o2, none⟩) hb2).trans c2, (hb.cell (p := ⟨b3, o3, none⟩) hb3).trans c3⟩

set_option maxHeartbeats 4000000 in
set_option maxRecDepth 100000 in
theorem law_main (S : Nat → ByteArray) (L : Nat → Int) (b off n cap b2 off2 cap2 : Nat) (w : World) (hn0 : 0 < n) (hn : n ≤ maxLen) (hb : b < w.heap.size) (hb2 : b2 < w.heap.size)
    (hS : ∀ i, i < n → (S i).size ≤ maxLen) (hc : ∀ i, i < n → w.cell? ⟨b, off + i, none⟩ = some (.string (S i)))
    (hL : ∀ i, i < n → -2147483648 ≤ L i ∧ L i ≤ 2147483647) (hc2 : ∀ i, i < n → w.cell? ⟨b2, off2 + i, none⟩ = some (.int .i32 (L i))) :
    Calls Try.prog 5 #[.slice (some ⟨b, off, none⟩) n cap, .slice (some ⟨b2, off2, none⟩) n cap2] w fun e w' => e = .returned (.bool true) ∧ Below w.heap.size w w' := by
  have HC : Hid (∀ i, i < n → w.cell? ⟨b, off + i, none⟩ = some (.string (S i))) := hc
  have HC2 : Hid (∀ i, i < n → w.cell? ⟨b2, off2 + i, none⟩ = some (.int .i32 (L i))) := hc2
  have HL : Hid (∀ i, i < n → -2147483648 ≤ L i ∧ L i ≤ 2147483647) := hL
  have HB := bytes16 S b off n cap n cap2 (some ⟨b2, off2, none⟩) w hn hn hS hc
  have HB' : Hid (Calls Try.prog 16 #[.slice (some ⟨b, off, none⟩) n cap, .slice (some ⟨b2, off2, none⟩) n cap2] w fun e w' => SaysShort S n e ∧ w' = w) := HB
  clear hc hc2 hS HB hL
  unfold maxLen at hn
  obtain ⟨i0, hi, hz0, hz1, hz2⟩ := info_parts Try.info9
  go_enter Try.func5, Try.ntmps5
  go_wp2_with fail
  refine HB'.out.mono ?_
  rintro e w' ⟨⟨v, rfl, hv⟩, rfl⟩
  clear HB'
  cases v
  · clear hv
    go_wp2
    go_ret
    exact ⟨rfl, Below.refl _ _⟩
  have HS : Hid (∀ i, i < n → (S i).size ≤ 1048576) := hv rfl
  clear hv
  by_cases hn1 : 1024 < n
  · have hn1' : (1024 : Int) < (n : Int) := by omega
    go_wp2
    go_ret
    exact ⟨rfl, Below.refl _ _⟩
  have hn2 : n ≤ 1024 := by omega
  have hn2' : (n : Int) ≤ 1024 := by omega
  have hmk1 := run_seen n hn2
  have hmk2 := run_make_row' (P := Try.prog) 34 21 (.int .i32 0) 4 Try.underlying34 Try.info21 rfl .i64 .i64 n (by omega) (by omega)
  go_wp2
  go_loop [5, 6] (fun t i => ∃ k : Nat, k ≤ n ∧ i = .int .i64 k ∧ ∃ z : Int, 0 ≤ z ∧ z ≤ 1048576 ∧ t = .int .i64 z) (fun _ i => n - (intOf i).toNat)
  case atStart => exact ⟨0, Nat.zero_le _, rfl, 8 * (n : Int), by omega, by omega, rfl⟩
  case round =>
    obtain ⟨k, hk, rfl, z, hz0', hz1', rfl⟩ := hrel
    by_cases hlt : k < n
    · have hcx := HC.out k hlt
      have hs := HS.out k hlt
      have hi' : (k : Int) < (n : Int) := by omega
      by_cases h2 : z + ((S k).size : Int) ≤ 1048576
      · go_wp2
        go_round
        case rel => exact ⟨k + 1, by omega, by go_num, z + ((S k).size : Int), by omega, by omega, rfl⟩
        case measure => simp [intOf]; omega
      · go_wp2
        go_ret
        exact ⟨rfl, Below.refl _ _⟩
    clear hz0' hz1'
    go_wp2
    clear hmk1 hmk2
    go_loopw [7, 9] (fun sv i wr => ∃ k : Nat, k ≤ n ∧ i = .int .i64 k ∧ sv = .slice (some ⟨w'.heap.size, 0, none⟩) (seenTo S k).length n ∧ Wants S L n k w' wr) (fun _ i _ => n - (intOf i).toNat)
    case atStart => exact ⟨0, Nat.zero_le _, rfl, rfl, wants_start S L n hn2 w'⟩
    case round =>
      obtain ⟨k, hk, rfl, rfl, hW⟩ := hrel
      have hlen := seenTo_length S k
      have hsz := hW.size
      by_cases hlt : k < n
      · have hcx : wr.cell? ⟨b, off + k, none⟩ = some (.string (S k)) := (hW.below.cell (p := ⟨b, _, none⟩) hb).trans (HC.out k hlt)
        have hcl : wr.cell? ⟨b2, off2 + k, none⟩ = some (.int .i32 (L k)) := (hW.below.cell (p := ⟨b2, _, none⟩) hb2).trans (HC2.out k hlt)
        have hi' : (k : Int) < (n : Int) := by omega
        obtain ⟨hLl, hLu⟩ := HL.out k hlt
        by_cases hh : L k < ((seenTo S k).length : Int)
        · go_wp2_with fail
          refine (find_any (seenTo S k) (S k) w'.heap.size n wr (by omega) (wants_cells hW)).mono ?_
          rintro e w1 ⟨rfl, rfl⟩
          have hws := hW.want.cell (i := k) hlt
          simp only [Nat.lt_irrefl, if_false] at hws
          have hwf := hW.want.frozen k
          by_cases hin : S k ∈ seenTo S k
          · have hfl := (fnd_of_mem hin).1
            rw [findI_hit rfl hfl]
            have HN : Hid (Wants S L n (k + 1) w' (w1.setCell ⟨w'.heap.size + 1, k, none⟩ (.int .i32 (fnd (seenTo S k) (S k) : Int)))) := wants_old hW hin hh
            have HE : Hid (seenTo S (k + 1) = seenTo S k) := addS_of_mem hin
            clear hW hin
            go_wp2
            go_roundw
            case rel => exact ⟨k + 1, by omega, by go_num, by rw [HE.out], HN.out⟩
            case measure => simp [intOf]; omega
          · rw [findI_miss (fnd_of_not hin)]
            have HW : Hid (Wants S L n k w' w1) := hW
            have HE : Hid (seenTo S (k + 1) = seenTo S k ++ [S k]) := addS_of_not hin
            have hown := hW.own.alloc (.cells #[.string (S k)] 9)
            have HO : Hid ((w1.alloc (.cells #[.string (S k)] 9)).ownsRow w'.heap.size 9 1 (.slice (some ⟨w'.heap.size, 0, none⟩) (seenTo S k).length n) (seenTo S k).length ((seenTo S k).map Value.string)) := hown
            clear hW hown
            go_wp2_with (at_builtin; go_must (refine wpList_append_fits _ rfl _ _ 33 rfl w'.heap.size 9 i0 1 Try.underlying33 hi hz1 w'.heap.size (seenTo S k).length n ((seenTo S k).map Value.string) rfl HO.out ⟨w1.heap.size, 0, none⟩ 1 1 [.string (S k)] rfl rfl (cell_one_new _ _ _) (by intro u hu; simp at hu; subst hu; rfl) (by omega) ?_; intro w2 hown2 hgrow2; have hws2 := want_kept hsz hws hwf hgrow2; obtain ⟨hws2, hwf2⟩ := hws2))
            go_roundw
            case rel => exact ⟨k + 1, by omega, by go_num, by rw [HE.out]; simp, wants_new HW.out hin hh hown2 hgrow2⟩
            case measure => simp [intOf]; omega
        · go_wp2
          go_ret
          exact ⟨rfl, hW.below⟩
      · have ek : k = n := by omega
        rw [ek] at hW
        rename World => wo
        have HW : Hid (Wants S L n n w' wo) := hW
        clear hW
        go_wp2_with fail
        refine (new_any 0 (by omega) wo).mono ?_
        rintro e w3 ⟨rfl, hF⟩
        have hE := emp_fresh hF
        have HB3 : Hid (Below wo.heap.size wo w3) := hF.below
        have HE : Hid (Emp (wo.heap.size + 2) (wo.heap.size + 1) (wo.heap.size + 3) [] w3) := hE
        clear hF hE
        go_wp2
        go_loopw [12] (fun i wx => ∃ k : Nat, k ≤ n ∧ i = .int .i64 k ∧ Emp (wo.heap.size + 2) (wo.heap.size + 1) (wo.heap.size + 3) (seenTo S k) wx ∧ Below wo.heap.size wo wx) (fun i _ => n - (intOf i).toNat)
        case atStart => exact ⟨0, Nat.zero_le _, rfl, HE.out, HB3.out⟩
        case round =>
          clear HE HB3
          obtain ⟨q, hq, rfl, hE, hB⟩ := hrel
          have hlenq := seenTo_length S q
          have hbo : b < wo.heap.size := by omega
          have hbo2 : b2 < wo.heap.size := by omega
          by_cases hlt : q < n
          · have hsq := HS.out q hlt
            obtain ⟨hLl, hLu⟩ := HL.out q hlt
            have hh := HW.out.hints q hlt
            have k1 : wo.cell? ⟨b, off + q, none⟩ = some (.string (S q)) := (HW.out.below.cell (p := ⟨b, _, none⟩) hb).trans (HC.out q hlt)
            have k2 : wo.cell? ⟨b2, off2 + q, none⟩ = some (.int .i32 (L q)) := (HW.out.below.cell (p := ⟨b2, _, none⟩) hb2).trans (HC2.out q hlt)
            have k3 : wo.cell? ⟨w'.heap.size + 1, q, none⟩ = some (.int .i32 (fnd (seenTo S q) (S q) : Int)) := by rw [HW.out.want.cell hlt]; simp [hlt]
            have c1 : wr.cell? ⟨b, off + q, none⟩ = some (.string (S q)) := (hB.cell (p := ⟨b, _, none⟩) hbo).trans k1
            have c2 : wr.cell? ⟨b2, off2 + q, none⟩ = some (.int .i32 (L q)) := (hB.cell (p := ⟨b2, _, none⟩) hbo2).trans k2
            have c3 : wr.cell? ⟨w'.heap.size + 1, q, none⟩ = some (.int .i32 (fnd (seenTo S q) (S q) : Int)) := (hB.cell (p := ⟨w'.heap.size + 1, _, none⟩) (show w'.heap.size + 1 < wo.heap.size by omega)).trans k3
            have hi1 : (0 : Int) ≤ (q : Int) := by omega
            have hi2 : (q : Int) < (n : Int) := by omega
            have HE : Hid (Emp (wo.heap.size + 2) (wo.heap.size + 1) (wo.heap.size + 3) (seenTo S q) wr) := hE
            have HB : Hid (Below wo.heap.size wo wr) := hB
            have K1 : Hid (wo.cell? ⟨b, off + q, none⟩ = some (.string (S q)) ∧ wo.cell? ⟨b2, off2 + q, none⟩ = some (.int .i32 (L q)) ∧ wo.cell? ⟨w'.heap.size + 1, q, none⟩ = some (.int .i32 (fnd (seenTo S q) (S q) : Int))) := ⟨k1, k2, k3⟩
            clear k1 k2 k3 hE hB
            go_wp2
            go_region_held3 (fun wz => wz.cell? ⟨b, off + q, none⟩ = some (.string (S q)) ∧ wz.cell? ⟨b2, off2 + q, none⟩ = some (.int .i32 (L q)) ∧ wz.cell? ⟨w'.heap.size + 1, q, none⟩ = some (.int .i32 (fnd (seenTo S q) (S q) : Int))) (first | assumption | go_keep)
              ((go_at_call 14; refine (emp14 wo.heap.size (wo.heap.size + 2) (wo.heap.size + 1) (wo.heap.size + 3) (seenTo S q) (L q) (S q) _ (emp_drew HE.out) (seenTo_nodup S q) (by omega) (by omega) hh hLl (by omega) hsq).mono ?_; rintro e w4 ⟨rfl, hN⟩; have hd := cells_kept hbo hbo2 (show w'.heap.size + 1 < wo.heap.size by omega) hN c1 c2 c3))
            go_wp2
            go_roundw
            case rel => exact ⟨q + 1, by omega, by go_num, hN.emp, HB.out.trans (below_undrew hN.below)⟩
            case measure => simp [intOf]; omega
          · go_wp2
            go_ret
            exact ⟨rfl, HW.out.below.trans (hB.mono HW.out.below.size)⟩

end Go.Proofs.Qxb6613686a
