import Derived.Test.Qxb6613686aBase
import Derived.Deep.RegionHeld3
namespace Go.Proofs.Qxb6613686a
open Go.RowKit

/-- newChunk where the last slab has room. -/
theorem chunk_room (kb : Nat) (i : Int) (w : World) (h0 : 0 ≤ i) (h1 : i ≤ 100000) (hm : (i % 8192 == 0) = false)
    (c2 : w.cell? ⟨kb, 2, none⟩ = some (.int .i64 i)) (f2 : w.frozen? ⟨kb, 2, none⟩ = false) :
    Calls Try.prog 26 #[.pointer (some ⟨kb, 0, none⟩)] w fun e w' => e = .returned (.int .u32 i) ∧ w' = w.setCell ⟨kb, 2, none⟩ (.int .i64 (i + 1)) := by
  go_enter Try.func26, Try.ntmps26
  go_wp2
  go_ret
  exact ⟨rfl, rfl⟩

theorem kept4 {w w1 : World} {kb : Nat} {row : Option Nat} {o1 o2 : Obj} {v1 v2 : Value} (hkb : kb < w.heap.size) (hg : ((w.alloc o1).alloc o2).drew.grownBy w1 row) (hne : row ≠ some kb)
    (c1 : w.cell? ⟨kb, 1, none⟩ = some v1) (f1 : w.frozen? ⟨kb, 1, none⟩ = false) (c2 : w.cell? ⟨kb, 2, none⟩ = some v2) (f2 : w.frozen? ⟨kb, 2, none⟩ = false) :
    w1.cell? ⟨kb, 1, none⟩ = some v1 ∧ w1.frozen? ⟨kb, 1, none⟩ = false ∧ w1.cell? ⟨kb, 2, none⟩ = some v2 ∧ w1.frozen? ⟨kb, 2, none⟩ = false := by
  have hb : w1.heap[kb]? = w.heap[kb]? := by
    rw [hg.block kb (by simp; omega) (Ne.symm hne)]
    show ((w.heap.push o1).push o2)[kb]? = _
    rw [Array.getElem?_push, if_neg (by simp; omega), Array.getElem?_push, if_neg (by omega)]
  refine ⟨?_, ?_, ?_, ?_⟩
  · rw [← c1]; exact World.cell?_of_block hb
  · rw [← f1]; exact World.frozen?_of_block hb
  · rw [← c2]; exact World.cell?_of_block hb
  · rw [← f2]; exact World.frozen?_of_block hb

set_option maxHeartbeats 800000 in
/-- newChunk where a slab is wanted. -/
theorem chunk_full (kb base n : Nat) (sv : Value) (xs : List Value) (i : Int) (w : World) (h0 : 0 ≤ i) (h1 : i ≤ 100000) (hm : (i % 8192 == 0) = true)
    (hkb : kb < w.heap.size) (hbase : base ≤ w.heap.size) (hown : w.ownsRow base 39 1 sv n xs) (hn : n ≤ 100000) (hne : sv.ownBlock ≠ some kb)
    (c1 : w.cell? ⟨kb, 1, none⟩ = some sv) (f1 : w.frozen? ⟨kb, 1, none⟩ = false)
    (c2 : w.cell? ⟨kb, 2, none⟩ = some (.int .i64 i)) (f2 : w.frozen? ⟨kb, 2, none⟩ = false) :
    Calls Try.prog 26 #[.pointer (some ⟨kb, 0, none⟩)] w fun e w' => e = .returned (.int .u32 i) ∧ 
      ∃ g cap w1, w1.ownsRow base 39 1 (.slice (some ⟨g, 0, none⟩) (n + 1) cap) (n + 1) (xs ++ [.slice (some ⟨w.heap.size, 0, none⟩) 1048576 1048576]) ∧
        ((w.alloc (.cells (zeros 1048576) 5)).alloc (.cells #[.slice (some ⟨w.heap.size, 0, none⟩) 1048576 1048576] 39)).drew.grownBy w1 sv.ownBlock ∧ (sv.ownBlock = some g ∨ g = w.heap.size + 2) ∧ g < w1.heap.size ∧
        w' = (w1.setCell ⟨kb, 1, none⟩ (.slice (some ⟨g, 0, none⟩) (n + 1) cap)).setCell ⟨kb, 2, none⟩ (.int .i64 (i + 1)) := by
  obtain ⟨i0, hi, hz0, hz1, hz2⟩ := info_parts Try.info39
  have hmk := run_slab
  have hown2 : Hid (((w.alloc (.cells (zeros 1048576) 5)).alloc (.cells #[.slice (some ⟨w.heap.size, 0, none⟩) 1048576 1048576] 39)).drew.ownsRow base 39 1 sv n xs) := ((hown.alloc _).alloc _).drew
  have hnews : Hid (∀ j u, [Value.slice (some ⟨w.heap.size, 0, none⟩) 1048576 1048576][j]? = some u → ((w.alloc (.cells (zeros 1048576) 5)).alloc (.cells #[.slice (some ⟨w.heap.size, 0, none⟩) 1048576 1048576] 39)).drew.cell? ((⟨w.heap.size + 1, 0, none⟩ : Addr).add j) = some u) := by
    have e := heap_alloc_new (w.alloc (.cells (zeros 1048576) 5)) (.cells #[.slice (some ⟨w.heap.size, 0, none⟩) 1048576 1048576] 39)
    rw [World.size_alloc] at e
    exact World.news_of_block (w := ((w.alloc (.cells (zeros 1048576) 5)).alloc (.cells #[.slice (some ⟨w.heap.size, 0, none⟩) 1048576 1048576] 39)).drew) e
  clear hown
  go_enter Try.func26, Try.ntmps26
  go_wp2
  go_region_law ((refine step_append_lies _ (by rfl) _ _ _ (by rfl) base 39 i0 (.slice none 0 0) 1 24 Try.underlying44 hi hz0 hz1 hz2 rfl (by omega) sv n xs (by rfl) hown2.out ⟨w.heap.size + 1, 0, none⟩ 1 1 [.slice (some ⟨w.heap.size, 0, none⟩) 1048576 1048576] (by rfl) rfl hnews.out (by intro u hu; simp at hu; subst hu; rfl) (by omega) (by unfold maxLen; omega) (by omega) (by simp; omega) (w.heap.size + 2) (by simp) ?_; intro g cap w1 hown1 hgrow hat hlt; have hk := kept4 hkb hgrow hne c1 f1 c2 f2; have k1 := hk.1; have e1 := hk.2.1; have k2 := hk.2.2.1; have e2 := hk.2.2.2; clear hk))
  all_goals
    go_wp2
    go_ret
    exact ⟨rfl, g, cap, w1, hown1, hgrow, hat, hlt, rfl⟩

end Go.Proofs.Qxb6613686a
