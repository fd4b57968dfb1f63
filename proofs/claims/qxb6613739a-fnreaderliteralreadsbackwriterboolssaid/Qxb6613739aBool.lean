import Derived.Test.Qxb6613739aWrite
namespace Go.Proofs.Qxb6613739a
open Go.RowKit
set_option linter.unusedVariables false
set_option linter.unusedSimpArgs false

theorem byteCells_snoc (L : List UInt8) (x : UInt8) : Lib.byteCells (L ++ [x]) = Lib.byteCells L ++ [.int .u8 (x.toNat : Int)] := by simp [Lib.byteCells]

/-- Behind an append to the writer's text: the writer's own block is as it was. -/
theorem wr_kept {B wb n : Nat} {cs : Array Value} {bv : Value} {xs : List Value} {w w1 w2 : World} (hlow : B ≤ wb) (hBw : B ≤ w.heap.size) (hr : w.heap[wb]? = some (.cells cs 50 (0, 0))) (ho : w.ownsRow B 5 1 bv n xs) (hb : ∀ k, k < w.heap.size → w1.heap[k]? = w.heap[k]?) (hs : w.heap.size ≤ w1.heap.size) (hos : w1.os = w.os) (htp : w1.tape = w.tape) (hou : w1.output = w.output)
    (hg : w1.grownBy w2 bv.ownBlock) : w2.heap[wb]? = some (.cells cs 50 (0, 0)) ∧ Below B w w2 := by
  have hlt := (Array.getElem?_eq_some_iff.1 hr).1
  have hne := own_ne hr ho
  refine ⟨by rw [hg.block wb (by omega) (Ne.symm hne), hb wb hlt]; exact hr, ⟨hg.os.trans hos, hg.tape.trans htp, hg.output.trans hou, Nat.le_trans hs hg.size, fun k hk => ?_⟩⟩
  rw [hg.block k (by omega) (fun e => by have := (ho.lt k e.symm).1; omega), hb k (by omega)]

set_option maxHeartbeats 800000 in
/-- comma. -/
theorem comma26 (B wb : Nat) (L : List UInt8) (more : Bool) (w : World) (hB : B ≤ w.heap.size) (hW : Wr B wb L more w) (hL : L.length ≤ 1000000) :
    Calls Try.prog 26 #[.pointer (some ⟨wb, 0, none⟩)] w fun e w' => e = .returned (.tuple #[]) ∧ Wr B wb (L ++ (if more then [44] else [])) more w' ∧ Below B w w' := by
  obtain ⟨bv, hr, ho⟩ := hW.now
  have hlow := hW.low
  have c0 : w.cell? ⟨wb, 0, none⟩ = some bv := by rw [cell_of_row _ _ _ _ _ _ hr]; rfl
  have c1 : w.cell? ⟨wb, 1, none⟩ = some (.bool more) := by rw [cell_of_row _ _ _ _ _ _ hr]; rfl
  cases more
  · have HW : Hid (Wr B wb L false w) := hW
    clear hW hr ho c0
    go_enter Try.func26, Try.ntmps26
    go_wp2
    go_end0
    exact ⟨rfl, HW.out, Below.refl _ _⟩
  · obtain ⟨i0, hi, hz0, hz1, hz2⟩ := info_parts Try.info5
    obtain ⟨a0, cap0, rfl⟩ := own_shape ho
    have HR : Hid (w.heap[wb]? = some (.cells #[.slice a0 L.length cap0, .bool true, .nilIface] 50 (0, 0))) := hr
    have HO : Hid (w.ownsRow B 5 1 (.slice a0 L.length cap0) L.length (Lib.byteCells L)) := ho
    have hlt := (Array.getElem?_eq_some_iff.1 hr).1
    have hoA := ho.alloc (.cells #[.int .u8 44] 5)
    clear hr ho hW
    go_enter Try.func26, Try.ntmps26
    go_wp2_with (at_builtin; go_must (refine wpList_append_lies _ rfl _ _ 27 rfl B 5 i0 (.int .u8 0) 1 1 Try.underlying27 hi hz0 hz1 hz2 rfl (by omega) (.slice a0 L.length cap0) L.length (Lib.byteCells L) rfl hoA ⟨w.heap.size, 0, none⟩ 1 1 [.int .u8 44] rfl rfl (cell_one_new _ _ _) (by intro u hu; simp at hu; subst hu; rfl) (by omega) (by unfold maxLen; omega) (by omega) (by simp; omega) (w.heap.size + 1) (by simp) ?_; intro g cap w2 hown2 hgrow hat2 hlt2; have hK := wr_kept hlow hB HR.out HO.out (fun k hk => Below.heap_alloc w _ k hk) (by simp) rfl rfl rfl hgrow; have d0 : w2.cell? ⟨wb, 0, none⟩ = some (.slice a0 L.length cap0) := (by rw [cell_of_row _ _ _ _ _ _ hK.1]; rfl); have f0 : w2.frozen? ⟨wb, 0, none⟩ = false := frozen_of_row _ _ _ _ _ hK.1; have HK : Hid (w2.heap[wb]? = some (.cells #[.slice a0 L.length cap0, .bool true, .nilIface] 50 (0, 0)) ∧ Below B w w2) := hK; have HO2 : Hid (w2.ownsRow B 5 1 (.slice (some ⟨g, 0, none⟩) (L.length + 1) cap) (L.length + 1) (Lib.byteCells L ++ [.int .u8 44])) := hown2; clear hK hgrow hat2 hown2))
    go_end0
    refine ⟨rfl, ⟨hlow, .slice (some ⟨g, 0, none⟩) (L.length + 1) cap, ?_, ?_⟩, HK.out.2.setCell (p := ⟨wb, 0, none⟩) hlow _⟩
    · rw [heap_setCell_same _ _ _ _ _ _ HK.out.1]; rfl
    · have hne : (Value.slice (some ⟨g, 0, none⟩) (L.length + 1) cap).ownBlock ≠ some wb := own_ne HK.out.1 HO2.out
      have := ownsRow_setCell_other HO2.out (a := ⟨wb, 0, none⟩) hne (.slice (some ⟨g, 0, none⟩) (L.length + 1) cap)
      simpa [Lib.byteCells] using this

set_option maxHeartbeats 800000 in
/-- Bool. -/
theorem bool9 (B wb : Nat) (L : List UInt8) (more b : Bool) (w : World) (hB : B ≤ w.heap.size) (hW : Wr B wb L more w) (hL : L.length ≤ 900000) :
    Calls Try.prog 9 #[.pointer (some ⟨wb, 0, none⟩), .bool b] w fun e w' => e = .returned (.pointer (some ⟨wb, 0, none⟩)) ∧ Wr B wb (L ++ (if more then [44] else []) ++ (word b).data.toList) true w' ∧ Below B w w' := by
  have HC := comma26 B wb L more w hB hW (by omega)
  have HC' : Hid (Calls Try.prog 26 #[.pointer (some ⟨wb, 0, none⟩)] w fun e w' => e = .returned (.tuple #[]) ∧ Wr B wb (L ++ (if more then [44] else [])) more w' ∧ Below B w w') := HC
  clear HC hW
  obtain ⟨M, hM⟩ : ∃ M, M = L ++ (if more then [44] else []) := ⟨_, rfl⟩
  have hMl : M.length ≤ 900001 := by rw [hM]; cases more <;> simp <;> omega
  rw [← hM] at HC' ⊢
  clear hM
  go_enter Try.func9, Try.ntmps9
  go_wp2_with fail
  refine HC'.out.mono ?_
  rintro e w1 ⟨rfl, hW1, hb1⟩
  clear HC'
  obtain ⟨bv, hr, ho⟩ := hW1.now
  have hlow := hW1.low
  have hB1 : B ≤ w1.heap.size := Nat.le_trans hB hb1.size
  obtain ⟨a0, cap0, rfl⟩ := own_shape ho
  have c0 : w1.cell? ⟨wb, 0, none⟩ = some (.slice a0 M.length cap0) := by rw [cell_of_row _ _ _ _ _ _ hr]; rfl
  have HR : Hid (w1.heap[wb]? = some (.cells #[.slice a0 M.length cap0, .bool more, .nilIface] 50 (0, 0))) := hr
  have HO : Hid (w1.ownsRow B 5 1 (.slice a0 M.length cap0) M.length (Lib.byteCells M)) := ho
  have HB1 : Hid (Below B w w1) := hb1
  clear hr ho hW1 hb1
  go_wp2_with fail
  refine (app27 B M.length _ (Lib.byteCells M) b w1 HO.out (by omega) hB1).mono ?_
  rintro e w2 ⟨v', rfl, hA⟩
  obtain ⟨hK, hb2⟩ := wr_kept hlow hB1 HR.out HO.out (fun k _ => rfl) (Nat.le_refl _) rfl rfl rfl hA.grown
  have hex : ∃ a cap, v' = .slice a (M.length + (word b).size) cap := own_shape hA.own
  obtain ⟨a1, cap1, hv⟩ := hex
  have HA : Hid (w2.ownsRow B 5 1 v' (M.length + (word b).size) (Lib.byteCells M ++ Lib.byteCells (word b).data.toList)) := hA.own
  rw [hv] at HA ⊢
  clear hA hv
  have d0 : w2.cell? ⟨wb, 0, none⟩ = some (.slice a0 M.length cap0) := by rw [cell_of_row _ _ _ _ _ _ hK]; rfl
  have d1 : w2.cell? ⟨wb, 1, none⟩ = some (.bool more) := by rw [cell_of_row _ _ _ _ _ _ hK]; rfl
  have f0 : w2.frozen? ⟨wb, 0, none⟩ = false := frozen_of_row _ _ _ _ _ hK
  have f1 : w2.frozen? ⟨wb, 1, none⟩ = false := frozen_of_row _ _ _ _ _ hK
  have HK : Hid (w2.heap[wb]? = some (.cells #[.slice a0 M.length cap0, .bool more, .nilIface] 50 (0, 0))) := hK
  have HB2 : Hid (Below B w1 w2) := hb2
  clear hK hb2 c0
  go_wp2
  go_ret
  have hne := own_ne HK.out HA.out
  refine ⟨rfl, ⟨hlow, .slice a1 (M.length + (word b).size) cap1, ?_, ?_⟩, ((HB1.out.trans HB2.out).setCell (p := ⟨wb, 0, none⟩) hlow _).setCell (p := ⟨wb, 1, none⟩) hlow _⟩
  · rw [heap_setCell_same _ _ _ _ _ _ (heap_setCell_same _ _ _ _ _ _ HK.out)]; rfl
  · have := ownsRow_setCell_other (ownsRow_setCell_other HA.out (a := ⟨wb, 0, none⟩) hne (.slice a1 (M.length + (word b).size) cap1)) (a := ⟨wb, 1, none⟩) hne (.bool true)
    rw [List.length_append, ← Lib.size_eq, Lib.byteCells_append]
    exact this

/-- The cells of room for n bytes. -/
theorem run_room (n : Nat) (hn : n ≤ 281474976710656) (C : Int) (hC : C = (n : Int)) (w : World) : (Instr.makeSlice 27 (.int .i64 0) (.int .i64 C)).run Try.prog w = .ok (.slice (some ⟨w.heap.size, 0, none⟩) 0 n) (w.alloc (.cells (zeros n) 5)) := by
  obtain ⟨i0, hi, hz0, hz1, hz2⟩ := info_parts Try.info5
  subst hC
  rw [run_make (P := Try.prog) w 27 5 i0 (.int .u8 0) Try.underlying27 hi hz0 .i64 .i64 0 n (by omega) (by omega) (by rw [hz2]; omega) (by omega)]
  rw [hz1]
  have e : madeCells (Value.int .u8 0).cells ((n : Int).toNat * 1) = zeros n := by
    unfold zeros
    apply Array.toList_inj.1
    rw [show (Value.int .u8 0).cells = #[.int .u8 0] from rfl, toList_madeCells_one]
    simp
  rw [e]
  simp

/-- NewWriter. -/
theorem new8 (n : Nat) (hn : n ≤ 100000) (w : World) : Calls Try.prog 8 #[.int .i64 (n : Int)] w fun e w' => ∃ wb, e = .returned (.pointer (some ⟨wb, 0, none⟩)) ∧ Wr w.heap.size wb [] false w' ∧ Below w.heap.size w w' := by
  have hmk := run_room n (by omega) (n : Int) rfl
  go_enter Try.func8, Try.ntmps8
  go_wp2
  go_ret
  refine ⟨w.heap.size + 1, rfl, ⟨by omega, .slice (some ⟨w.heap.size, 0, none⟩) 0 n, ?_, ?_⟩, ((Below.refl _ _).alloc (Nat.le_refl _) _).alloc (by simp) _⟩
  · show ((w.heap.push _).push _)[w.heap.size + 1]? = _
    simp only [Array.getElem?_push, Array.size_push]
    rw [if_pos trivial]
  · exact (World.ownsRow_made (base := w.heap.size) (e := 5) (size := 1) w (zeros n) n (Nat.le_refl _) (by unfold maxLen; omega) (by simp [zeros])).alloc _

/-- The words of the first k, joined by commas. -/
def jn (S : Nat → Bool) : Nat → List UInt8
  | 0 => []
  | k + 1 => jn S k ++ (if decide (0 < k) then [44] else []) ++ (word (S k)).data.toList

theorem jn_length (S : Nat → Bool) : ∀ k, (jn S k).length ≤ 6 * k
  | 0 => Nat.le_refl _
  | k + 1 => by
    have h1 := jn_length S k
    have h2 := word_pos (S k)
    have h3 := Lib.size_eq (word (S k))
    unfold jn
    simp only [List.length_append]
    by_cases hk : 0 < k <;> simp [hk] <;> simp at h3 <;> omega

end Go.Proofs.Qxb6613739a
