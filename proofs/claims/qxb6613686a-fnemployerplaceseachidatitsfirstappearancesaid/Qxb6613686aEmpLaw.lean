import Derived.Test.Qxb6613686aEmpNew
import Derived.Test.Qxb6613686aNew
import Derived.Deep.OwnRows
import Derived.Deep.RegionHeld3
namespace Go.Proofs.Qxb6613686a
open Go.RowKit Go.Maps Go.WideMaps
set_option linter.unusedVariables false
set_option linter.unusedSimpArgs false

theorem Try.info21 : (Try.prog.info? 21).map (fun i => (i.zero, i.size, i.bytes)) = some (some (.int .i32 0), 1, 4) := by kernel_rfl

/-- The cells of room for n strings. -/
def scells (n : Nat) : Array Value := madeCells #[.string ByteArray.empty] n

theorem run_seen (n : Nat) (hn : n ≤ 1024) (w : World) : (Instr.makeSlice 33 (.int .i64 0) (.int .i64 (n : Int))).run Try.prog w = .ok (.slice (some ⟨w.heap.size, 0, none⟩) 0 n) (w.alloc (.cells (scells n) 9)) := by
  obtain ⟨i0, hi, hz0, hz1, hz2⟩ := info_parts Try.info9
  rw [run_make (P := Try.prog) w 33 9 i0 _ Try.underlying33 hi hz0 .i64 .i64 0 n (by omega) (by omega) (by rw [hz2]; omega) (by omega)]
  rw [hz1]
  simp [scells, Value.cells]

/-- What the second loop has made behind k ids. -/
structure Wants (S : Nat → ByteArray) (L : Nat → Int) (n k : Nat) (w wr : World) : Prop where
  below : Below w.heap.size w wr
  size : w.heap.size + 2 ≤ wr.heap.size
  own : wr.ownsRow w.heap.size 9 1 (.slice (some ⟨w.heap.size, 0, none⟩) (seenTo S k).length n) (seenTo S k).length ((seenTo S k).map Value.string)
  want : wr.rowIs (w.heap.size + 1) 21 n (fun j => .int .i32 (if j < k then (fnd (seenTo S j) (S j) : Int) else 0))
  hints : ∀ j, j < k → L j < ((seenTo S j).length : Int)

theorem wants_start (S : Nat → ByteArray) (L : Nat → Int) (n : Nat) (hn : n ≤ 1024) (w : World) : Wants S L n 0 w ((w.alloc (.cells (scells n) 9)).alloc (.cells (madeCells #[.int .i32 0] n) 21)) := by
  refine ⟨((Below.refl _ _).alloc (Nat.le_refl _) _).alloc (by simp) _, by simp, ?_, ?_, fun j hj => by omega⟩
  · have h := World.ownsRow_made (base := w.heap.size) (e := 9) (size := 1) w (scells n) n (Nat.le_refl _) (by unfold maxLen; omega) (by simp [scells, size_madeCells])
    exact h.alloc _
  · have h := World.rowIs_made (w.alloc (.cells (scells n) 9)) (.int .i32 0) n 21
    rw [World.size_alloc] at h
    exact h.congr fun j _ => by simp

theorem wants_cells {S : Nat → ByteArray} {L : Nat → Int} {n k : Nat} {w wr : World} (h : Wants S L n k w wr) (i : Nat) (hi : i < (seenTo S k).length) : wr.cell? ⟨w.heap.size, i, none⟩ = some (.string ((seenTo S k).getD i ByteArray.empty)) := by
  rw [h.own.cellAt i (by omega)]
  simp [hi]

theorem want_set {S : Nat → ByteArray} {n k b : Nat} {v : Int} {wr : World} (h : wr.rowIs b 21 n (fun j => .int .i32 (if j < k then (fnd (seenTo S j) (S j) : Int) else 0))) (hv : v = (fnd (seenTo S k) (S k) : Int)) :
    (wr.setCell ⟨b, k, none⟩ (.int .i32 v)).rowIs b 21 n (fun j => .int .i32 (if j < k + 1 then (fnd (seenTo S j) (S j) : Int) else 0)) := by
  refine (h.set k (.int .i32 v)).congr fun j _ => ?_
  by_cases e : j = k
  · subst e; simp [hv]
  · by_cases e2 : j < k
    · simp [e, e2, Nat.lt_succ_of_lt e2]
    · have : ¬ j < k + 1 := by omega
      simp [e, e2, this]

theorem hints_step {S : Nat → ByteArray} {L : Nat → Int} {k : Nat} (h : ∀ j, j < k → L j < ((seenTo S j).length : Int)) (hk : L k < ((seenTo S k).length : Int)) : ∀ j, j < k + 1 → L j < ((seenTo S j).length : Int) := by
  intro j hj
  rcases Nat.lt_or_ge j k with h1 | h1
  · exact h j h1
  · have : j = k := by omega
    subst this
    exact hk

/-- The id was seen. -/
theorem wants_old {S : Nat → ByteArray} {L : Nat → Int} {n k : Nat} {w wr : World} (h : Wants S L n k w wr) (hin : S k ∈ seenTo S k) (hk : L k < ((seenTo S k).length : Int)) : Wants S L n (k + 1) w (wr.setCell ⟨w.heap.size + 1, k, none⟩ (.int .i32 (fnd (seenTo S k) (S k) : Int))) := by
  have e : seenTo S (k + 1) = seenTo S k := addS_of_mem hin
  refine ⟨h.below.setCell (p := ⟨w.heap.size + 1, k, none⟩) (by simp) _, by simpa using h.size, ?_, want_set h.want rfl, hints_step h.hints hk⟩
  rw [e]
  exact ownsRow_setCell_other h.own (a := ⟨w.heap.size + 1, k, none⟩) (by simp [Value.ownBlock]) _

/-- The id is new: it is appended. -/
theorem wants_new {S : Nat → ByteArray} {L : Nat → Int} {n k : Nat} {o : Obj} {w wr w1 : World} (h : Wants S L n k w wr) (hin : S k ∉ seenTo S k) (hk : L k < ((seenTo S k).length : Int))
    (hown : w1.ownsRow w.heap.size 9 1 (.slice (some ⟨w.heap.size, 0, none⟩) ((seenTo S k).length + 1) n) ((seenTo S k).length + 1) ((seenTo S k).map Value.string ++ [.string (S k)])) (hg : (wr.alloc o).grownBy w1 (some w.heap.size)) :
    Wants S L n (k + 1) w (w1.setCell ⟨w.heap.size + 1, k, none⟩ (.int .i32 ((seenTo S k).length : Int))) := by
  have e : seenTo S (k + 1) = seenTo S k ++ [S k] := addS_of_not hin
  have hs := hg.size
  have hs2 := h.size
  simp at hs
  refine ⟨((h.below.alloc (by omega) o).grown hg (by simp; omega) (fun j hj => by simp at hj; omega)).setCell (p := ⟨w.heap.size + 1, k, none⟩) (by simp) _, by simp; omega, ?_, want_set ?_ (by rw [fnd_of_not hin]), hints_step h.hints hk⟩
  · rw [e, List.length_append, List.length_singleton, List.map_append]
    exact ownsRow_setCell_other hown (a := ⟨w.heap.size + 1, k, none⟩) (by simp [Value.ownBlock]) _
  · refine (h.want.alloc o).of_block (hg.block _ (by simp; omega) (by simp))

/-- A new holder has no employers. -/
theorem emp_fresh {w w1 : World} (h : Fresh 0 0 w w1) : Emp (w.heap.size + 2) (w.heap.size + 1) (w.heap.size + 3) [] w1 := by
  refine ⟨by rw [h.size]; exact Nat.le_refl _, by omega, by omega, .slice none 0 0, _, _, _, _, .map [], h.holder, World.ownsRow_nil _ _ _ _, ?_, mapIs_nil⟩
  have hm := World.ownsMap_made (H := Unit) (w := w.alloc (.cells #[] 50)) Try.prog 9 (plainElem Try.prog 21)
  obtain ⟨es, clock, hb, r⟩ := hm
  have hb' : (some (.map #[] 0) : Option Obj) = some (.map es clock) := by
    rw [← hb]; exact (heap_alloc_new _ _).symm
  simp at hb'
  obtain ⟨rfl, rfl⟩ := hb'
  exact ⟨#[], 0, h.map, r⟩

end Go.Proofs.Qxb6613686a
