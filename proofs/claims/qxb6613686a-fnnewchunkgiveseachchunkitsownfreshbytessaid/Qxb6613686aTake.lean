import Derived.Test.Qxb6613686aChunk
namespace Go.Proofs.Qxb6613686a
open Go.RowKit

/-- The holder's block: the list of slabs, how many chunks are taken. -/
def kcells (v0 sv : Value) (i : Nat) (v3 v4 v5 : Value) : Array Value := #[v0, sv, .int .i64 (i : Int), v3, v4, v5]

def slabV (g : Nat) : Value := .slice (some ⟨g, 0, none⟩) 1048576 1048576

/-- WHAT newChunk LEAVES. -/
structure Took (kb B i : Nat) (v0 v3 v4 v5 sv : Value) (xs : List Value) (w w' : World) : Prop where
  below : Below kb w w'
  keep : ∀ k, k < w.heap.size → k ≠ kb → some k ≠ sv.ownBlock → w'.heap[k]? = w.heap[k]?
  now : ∃ sv' xs', w'.heap[kb]? = some (.cells (kcells v0 sv' (i + 1) v3 v4 v5) 47 (0, 0)) ∧ w'.ownsRow B 39 1 sv' xs'.length xs' ∧
    ((i % 8192 ≠ 0 ∧ sv' = sv ∧ xs' = xs) ∨ (i % 8192 = 0 ∧ xs' = xs ++ [slabV w.heap.size] ∧ w'.heap[w.heap.size]? = some (.cells (zeros 1048576) 5 (0, 0)) ∧ w.heap.size < w'.heap.size))

theorem kcells_set2 (v0 sv : Value) (i : Nat) (v3 v4 v5 : Value) : (kcells v0 sv i v3 v4 v5).setIfInBounds 2 (.int .i64 ((i : Int) + 1)) = kcells v0 sv (i + 1) v3 v4 v5 := by
  simp [kcells]
theorem kcells_set1 (v0 sv sv' : Value) (i : Nat) (v3 v4 v5 : Value) : (kcells v0 sv i v3 v4 v5).setIfInBounds 1 sv' = kcells v0 sv' i v3 v4 v5 := by
  simp [kcells]

theorem took_room {kb B i : Nat} {v0 v3 v4 v5 sv : Value} {xs : List Value} {w : World} (hm : i % 8192 ≠ 0) (hB : kb < B) (hk : w.heap[kb]? = some (.cells (kcells v0 sv i v3 v4 v5) 47 (0, 0))) (hown : w.ownsRow B 39 1 sv xs.length xs) :
    Took kb B i v0 v3 v4 v5 sv xs w (w.setCell ⟨kb, 2, none⟩ (.int .i64 ((i : Int) + 1))) := by
  refine ⟨(Below.refl kb w).setCell (p := ⟨kb, 2, none⟩) (Nat.le_refl _) _, fun k _ hne _ => heap_setCell_other _ _ _ _ hne, sv, xs, ?_, ownsRow_setCell_below hown hB _, .inl ⟨hm, rfl, rfl⟩⟩
  rw [heap_setCell_same _ _ _ _ _ _ hk, kcells_set2]

theorem took_full {kb B i : Nat} {v0 v3 v4 v5 sv : Value} {xs : List Value} {w w1 : World} {g cap : Nat} (hm : i % 8192 = 0) (hB : kb < B) (hBw : B ≤ w.heap.size) (hk : w.heap[kb]? = some (.cells (kcells v0 sv i v3 v4 v5) 47 (0, 0))) (hown : w.ownsRow B 39 1 sv xs.length xs)
    (hown1 : w1.ownsRow B 39 1 (.slice (some ⟨g, 0, none⟩) (xs.length + 1) cap) (xs.length + 1) (xs ++ [slabV w.heap.size]))
    (hg : ((w.alloc (.cells (zeros 1048576) 5)).alloc (.cells #[slabV w.heap.size] 39)).drew.grownBy w1 sv.ownBlock) :
    Took kb B i v0 v3 v4 v5 sv xs w ((w1.setCell ⟨kb, 1, none⟩ (.slice (some ⟨g, 0, none⟩) (xs.length + 1) cap)).setCell ⟨kb, 2, none⟩ (.int .i64 ((i : Int) + 1))) := by
  have hsv : ∀ k, sv.ownBlock = some k → B ≤ k ∧ k < w.heap.size := hown.lt
  have hold : ∀ k, k < w.heap.size → some k ≠ sv.ownBlock → w1.heap[k]? = w.heap[k]? := fun k hlt hne => by
    rw [hg.block k (by simp; omega) hne]
    show ((w.heap.push _).push _)[k]? = _
    rw [Array.getElem?_push, if_neg (by simp; omega), Array.getElem?_push, if_neg (by omega)]
  have hnew : w1.heap[w.heap.size]? = some (.cells (zeros 1048576) 5 (0, 0)) := by
    rw [hg.block w.heap.size (by simp; omega) (fun e => by have := hsv _ e.symm; omega)]
    show ((w.heap.push _).push _)[w.heap.size]? = _
    rw [Array.getElem?_push, if_neg (by simp), Array.getElem?_push, if_pos rfl]
  have hsz : w.heap.size + 2 ≤ w1.heap.size := by have := hg.size; simpa using this
  have hkk : w1.heap[kb]? = some (.cells (kcells v0 sv i v3 v4 v5) 47 (0, 0)) := by rw [hold kb (by omega) (fun e => by have := hsv _ e.symm; omega)]; exact hk
  have hb1 : Below kb w w1 := ⟨hg.os, hg.tape, hg.output, by omega, fun k hlt => hold k (by omega) (fun e => by have := hsv _ e.symm; omega)⟩
  refine ⟨(hb1.setCell (p := ⟨kb, 1, none⟩) (Nat.le_refl _) _).setCell (p := ⟨kb, 2, none⟩) (Nat.le_refl _) _, fun k hlt hne hns => ?_, .slice (some ⟨g, 0, none⟩) (xs.length + 1) cap, xs ++ [slabV w.heap.size], ?_, ?_, .inr ⟨hm, rfl, ?_, ?_⟩⟩
  · rw [heap_setCell_other _ _ _ _ hne, heap_setCell_other _ _ _ _ hne]; exact hold k hlt hns
  · rw [heap_setCell_same _ _ _ _ _ _ (heap_setCell_same _ _ _ _ _ _ hkk), kcells_set1, kcells_set2]
  · rw [List.length_append, List.length_singleton]
    exact ownsRow_setCell_below (ownsRow_setCell_below hown1 hB _) hB _
  · rw [heap_setCell_other _ _ _ _ (by simp; omega), heap_setCell_other _ _ _ _ (by simp; omega)]; exact hnew
  · simp; omega

theorem take26 (kb B i : Nat) (v0 v3 v4 v5 sv : Value) (xs : List Value) (w : World) (hi : i ≤ 20000) (hB : kb < B) (hBw : B ≤ w.heap.size) (hk : w.heap[kb]? = some (.cells (kcells v0 sv i v3 v4 v5) 47 (0, 0))) (hown : w.ownsRow B 39 1 sv xs.length xs) (hl : xs.length ≤ 100) :
    Calls Try.prog 26 #[.pointer (some ⟨kb, 0, none⟩)] w fun e w' => e = .returned (.int .u32 (i : Int)) ∧ Took kb B i v0 v3 v4 v5 sv xs w w' := by
  have c1 : w.cell? ⟨kb, 1, none⟩ = some sv := by rw [cell_of_row _ _ _ _ _ _ hk]; rfl
  have c2 : w.cell? ⟨kb, 2, none⟩ = some (.int .i64 (i : Int)) := by rw [cell_of_row _ _ _ _ _ _ hk]; rfl
  have f1 : w.frozen? ⟨kb, 1, none⟩ = false := frozen_of_row _ _ _ _ _ hk
  have f2 : w.frozen? ⟨kb, 2, none⟩ = false := frozen_of_row _ _ _ _ _ hk
  by_cases hm : i % 8192 = 0
  · have hne : sv.ownBlock ≠ some kb := fun e => by have := hown.lt _ e; omega
    refine (chunk_full kb B xs.length sv xs i w (by omega) (by omega) (by simp; omega) (by omega) hBw hown (by omega) hne c1 f1 c2 f2).mono ?_
    rintro e w' ⟨rfl, g, cap, w1, hown1, hg, _, _, rfl⟩
    exact ⟨rfl, took_full hm hB hBw hk hown hown1 hg⟩
  · refine (chunk_room kb i w (by omega) (by omega) (by simp; omega) c2 f2).mono ?_
    rintro e w' ⟨rfl, rfl⟩
    exact ⟨rfl, took_room hm hB hk hown⟩

theorem take_any (kb B i : Nat) (v0 v3 v4 v5 sv : Value) (xs : List Value) (w : World) (hi : i ≤ 20000) (hB : kb < B) (hBw : B ≤ w.heap.size) (hk : w.heap[kb]? = some (.cells (kcells v0 sv i v3 v4 v5) 47 (0, 0))) (hown : w.ownsRow B 39 1 sv xs.length xs) (hl : xs.length ≤ 100) :
    Calls Try.prog 15 #[.pointer (some ⟨kb, 0, none⟩)] w fun e w' => e = .returned (.int .u32 (i : Int)) ∧ Took kb B i v0 v3 v4 v5 sv xs w w' := by
  have H := take26 kb B i v0 v3 v4 v5 sv xs w hi hB hBw hk hown hl
  have HH : Hid (Calls Try.prog 26 #[.pointer (some ⟨kb, 0, none⟩)] w fun e w' => e = .returned (.int .u32 (i : Int)) ∧ Took kb B i v0 v3 v4 v5 sv xs w w') := H
  clear H hk hown
  go_enter Try.func15, Try.ntmps15
  go_wp2_with (go_at_call 26; refine HH.out.mono ?_; rintro e w' ⟨rfl, ht⟩)
  go_ret
  exact ⟨rfl, ht⟩

/-- ZZslabCount. -/
theorem count_any (kb n cap : Nat) (a : Option Addr) (w : World) (c1 : w.cell? ⟨kb, 1, none⟩ = some (.slice a n cap)) :
    Calls Try.prog 18 #[.pointer (some ⟨kb, 0, none⟩)] w fun e w' => e = .returned (.int .i64 (n : Int)) ∧ w' = w := by
  go_enter Try.func18, Try.ntmps18
  go_wp2
  go_ret
  exact ⟨rfl, rfl⟩

end Go.Proofs.Qxb6613686a
