import Derived.Test.Qxb6613686aBase
namespace Go.Proofs.Qxb6613686a
open Go.RowKit

/-- The cells of n new workers. -/
def wcells (n : Nat) : Array Value := madeCells #[.int .i64 0, .int .i64 0, .int .u32 0, .int .u32 0, .int .i32 0, .int .i32 0, .int .i32 0] (n * 7)

theorem run_workers (n : Nat) (hn : n ≤ 65536) (w : World) : (Instr.makeSlice 42 (.int .i64 (n : Int)) (.int .i64 (n : Int))).run Try.prog w = .ok (.slice (some ⟨w.heap.size, 0, none⟩) n n) (w.alloc (.cells (wcells n) 50)) := by
  obtain ⟨i0, hi, hz0, hz1, hz2⟩ := info_parts Try.info50
  rw [run_make (P := Try.prog) w 42 50 i0 _ Try.underlying42 hi hz0 .i64 .i64 n n (by omega) (by omega) (by rw [hz2]; omega) (by omega)]
  rw [hz1]
  rfl

/-- Of n workers' cells: no rows; the first k have no last employer. -/
structure WRow (cur : Array Value) (n k : Nat) : Prop where
  size : cur.size = n * 7
  rows : ∀ j, j < n → cur[j * 7 + 1]? = some (.int .i64 0)
  done : ∀ j, j < k → j < n → cur[j * 7 + 6]? = some (.int .i32 (-1))

theorem wrow_new (n : Nat) : WRow (wcells n) n 0 := by
  refine ⟨by simp [wcells, size_madeCells], fun j hj => ?_, fun j hj => by omega⟩
  have h : j * 7 + 1 < n * 7 := by omega
  simp [wcells, madeCells, h]

theorem wrow_set {cur : Array Value} {n k : Nat} (h : WRow cur n k) (hk : k < n) : WRow (cur.setIfInBounds (k * 7 + 6) (.int .i32 (-1))) n (k + 1) := by
  have hs := h.size
  refine ⟨by simpa using h.size, fun j hj => ?_, fun j hj hn => ?_⟩
  · rw [Array.getElem?_setIfInBounds, if_neg (by omega)]; exact h.rows j hj
  · rw [Array.getElem?_setIfInBounds]
    by_cases e : j = k
    · subst e; rw [if_pos rfl, if_pos (by omega)]
    · rw [if_neg (by omega)]; exact h.done j (by omega) hn

/-- What a new holder of n workers leaves, the first k of them told that they have no last employer: its three blocks are the last three. -/
structure Fresh (n k : Nat) (w w' : World) : Prop where
  below : Below w.heap.size w w'
  size : w'.heap.size = w.heap.size + 3
  rows : ∃ cur, w'.heap[w.heap.size]? = some (.cells cur 50 (0, 0)) ∧ WRow cur n k
  map : w'.heap[w.heap.size + 1]? = some (.map #[] 0)
  holder : w'.heap[w.heap.size + 2]? = some (.cells #[.slice (some ⟨w.heap.size, 0, none⟩) n n, .slice none 0 0, .int .i64 0, .slice none 0 0, .map (some (w.heap.size + 1)), .slice none 0 0] 47 (0, 0))

theorem fresh_start (n : Nat) (w : World) : Fresh n 0 w (((w.alloc (.cells (wcells n) 50)).alloc (.map #[] 0)).alloc (.cells #[.slice (some ⟨w.heap.size, 0, none⟩) n n, .slice none 0 0, .int .i64 0, .slice none 0 0, .map (some (w.heap.size + 1)), .slice none 0 0] 47)) := by
  refine ⟨(((Below.refl _ _).alloc (Nat.le_refl _) _).alloc (by simp) _).alloc (by simp; omega) _, by simp, ⟨wcells n, ?_, wrow_new n⟩, ?_, ?_⟩
  all_goals
    show (((w.heap.push _).push _).push _)[_]? = _
    simp only [Array.getElem?_push, Array.size_push]
    first | (rw [if_neg (by omega), if_neg (by omega), if_pos trivial]; done) | (rw [if_neg (by omega), if_pos trivial]; done) | (rw [if_pos trivial]; done)

theorem fresh_step {n k : Nat} {w wr : World} (h : Fresh n k w wr) (hk : k < n) : Fresh n (k + 1) w (wr.setCell ⟨w.heap.size, k * 7 + 6, none⟩ (.int .i32 (-1))) := by
  obtain ⟨hb, hs, ⟨cur, hc, hr⟩, hm, hh⟩ := h
  exact ⟨hb.setCell (Nat.le_refl _) _, by simpa using hs, ⟨_, heap_setCell_same _ _ _ _ _ _ hc, wrow_set hr hk⟩, by rw [heap_setCell_other _ _ _ _ (by simp)]; exact hm, by rw [heap_setCell_other _ _ _ _ (by simp)]; exact hh⟩

theorem wrow_at {cur : Array Value} {n k : Nat} (h : WRow cur n k) (j o : Nat) (hj : j < n) (ho : o < 7) : ∃ v, cur[j * 7 + o]? = some v := by
  have hs := h.size
  exact ⟨_, Array.getElem?_eq_getElem (by omega)⟩

set_option maxHeartbeats 800000 in
theorem new_any (n : Nat) (hn : n ≤ 65536) (w : World) :
    Calls Try.prog 9 #[.int .i64 (n : Int)] w fun e w' => e = .returned (.pointer (some ⟨w.heap.size + 2, 0, none⟩)) ∧ Fresh n n w w' := by
  have hmk := run_workers n hn
  have hmm := @run_makeMap Try.prog
  go_enter Try.func9, Try.ntmps9
  go_wp2
  go_loopw [15] (fun i wr => ∃ k : Nat, k ≤ n ∧ i = .int .i64 k ∧ Fresh n k w wr) (fun i _ => n - (intOf i).toNat)
  case atStart => exact ⟨0, Nat.zero_le _, rfl, fresh_start n w⟩
  case round =>
    clear hmk hmm
    obtain ⟨k, hk, rfl, hF⟩ := hrel
    by_cases hlt : k < n
    · obtain ⟨cur, hc, hr⟩ := hF.rows
      have hh := hF.holder
      have c0 : wr.cell? ⟨w.heap.size + 1 + 1, 0, none⟩ = some (.slice (some ⟨w.heap.size, 0, none⟩) n n) := by rw [cell_of_row _ _ _ _ _ _ hh]; rfl
      obtain ⟨v6, h6⟩ := wrow_at hr k 6 hlt (by omega)
      have c6 : wr.cell? ⟨w.heap.size, k * 7 + 6, none⟩ = some v6 := by rw [cell_of_row _ _ _ _ _ _ hc]; exact h6
      have f6 : wr.frozen? ⟨w.heap.size, k * 7 + 6, none⟩ = false := frozen_of_row _ _ _ _ _ hc
      have hi : (k : Int) < (n : Int) := by omega
      have HR := fresh_step hF hlt
      have HH : Hid (Fresh n (k + 1) w (wr.setCell ⟨w.heap.size, k * 7 + 6, none⟩ (.int .i32 (-1)))) := HR
      clear HR hF hr hc hh h6
      go_wp2
      go_roundw
      case rel => exact ⟨k + 1, by omega, by go_num, HH.out⟩
      case measure => simp [intOf]; omega
    · have e : k = n := by omega
      subst e
      go_wp2
      go_ret
      exact ⟨rfl, hF⟩

end Go.Proofs.Qxb6613686a
