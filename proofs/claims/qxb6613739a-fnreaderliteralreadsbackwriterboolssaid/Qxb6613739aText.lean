import Derived.Test.Qxb6613739aRead
import Derived.Lib.BufferWrite
import Derived.WalkSpells
namespace Go.Proofs.Qxb6613739a
open Go.RowKit
set_option linter.unusedVariables false
set_option linter.unusedSimpArgs false

theorem Try.info5 : (Try.prog.info? 5).map (fun i => (i.zero, i.size, i.bytes)) = some (some (.int .u8 0), 1, 1) := by kernel_rfl

/-- n zero bytes. -/
def zeros (n : Nat) : Array Value := Array.replicate n (.int .u8 0)

theorem run_zeros (n : Nat) (hn : n ≤ 281474976710656) (w : World) : (Instr.makeSlice 27 (.int .i64 (n : Int)) (.int .i64 (n : Int))).run Try.prog w = .ok (.slice (some ⟨w.heap.size, 0, none⟩) n n) (w.alloc (.cells (zeros n) 5)) := by
  obtain ⟨i0, hi, hz0, hz1, hz2⟩ := info_parts Try.info5
  rw [run_make (P := Try.prog) w 27 5 i0 (.int .u8 0) Try.underlying27 hi hz0 .i64 .i64 n n (by omega) (by omega) (by rw [hz2]; omega) (by omega)]
  rw [hz1]
  have e : madeCells (Value.int .u8 0).cells ((n : Int).toNat * 1) = zeros n := by
    unfold zeros
    apply Array.toList_inj.1
    rw [show (Value.int .u8 0).cells = #[.int .u8 0] from rfl, toList_madeCells_one]
    simp
  rw [e]
  simp

/-- A text in memory: nil, or a block of its own that holds just its bytes. -/
def TextIs (w : World) (tv : Value) (T : ByteArray) : Prop :=
  (tv = .slice none 0 0 ∧ T.size = 0) ∨ ∃ g, tv = .slice (some ⟨g, 0, none⟩) T.size T.size ∧ w.heap[g]? = some (.cells (Lib.byteCells T.data.toList).toArray 5 (0, 0))

theorem bytes_of_block {w : World} {g : Nat} {T : ByteArray} (h : w.heap[g]? = some (.cells (Lib.byteCells T.data.toList).toArray 5 (0, 0))) : Lib.Bytes w g 0 T := fun i hi => by
  rw [Nat.zero_add, cell_of_row _ _ _ _ _ _ h]
  have hi' : i < T.data.size := hi
  simp only [Lib.byteCells, List.getElem?_toArray, List.getElem?_map, Array.getElem?_toList, Array.getElem?_eq_getElem hi', Option.map_some]
  rfl

theorem TextIs.keep {w w' : World} {tv : Value} {T : ByteArray} (h : TextIs w tv T) (hk : ∀ k, k < w.heap.size → (∃ cs, w.heap[k]? = some (.cells cs 5 (0, 0))) → w'.heap[k]? = w.heap[k]?) : TextIs w' tv T := by
  rcases h with h | ⟨g, h1, h2⟩
  · exact .inl h
  · exact .inr ⟨g, h1, by rw [hk g (Array.getElem?_eq_some_iff.1 h2).1 ⟨_, h2⟩]; exact h2⟩

theorem block_lt {w : World} {a : Addr} {v : Value} (h : w.cell? a = some v) : a.block < w.heap.size := by
  rcases Nat.lt_or_ge a.block w.heap.size with hlt | hge
  · exact hlt
  · simp [World.cell?, Array.getElem?_eq_none hge] at h

set_option maxHeartbeats 1600000 in
/-- cloneBytesB1 of a slice that is not nil. -/
theorem clone_some (x : Addr) (T : ByteArray) (cap : Nat) (w : World) (hn : T.size ≤ 10000000) (hc : ∀ j v, (Lib.byteCells T.data.toList)[j]? = some v → w.cell? (x.add j) = some v) :
    Calls Try.prog 18 #[.slice (some x) T.size cap] w fun e w' => e = .returned (.slice (some ⟨w.heap.size, 0, none⟩) T.size T.size) ∧ TextIs w' (.slice (some ⟨w.heap.size, 0, none⟩) T.size T.size) T ∧ Below w.heap.size w w' ∧ w'.heap.size = w.heap.size + 1 := by
  have hmk := run_zeros T.size (by omega)
  have hinfo : (Try.prog.info? 5).map (·.size) = some 1 := by kernel_rfl
  obtain ⟨Z, hZ⟩ : ∃ Z, Z = zeros T.size := ⟨_, rfl⟩
  have hZs : Z.size = T.size := by rw [hZ]; simp [zeros]
  rw [← hZ] at hmk
  clear hZ
  have hlen : (Lib.byteCells T.data.toList).length = T.size := by rw [Lib.byteCells_length, ← Lib.size_eq]
  have hcp := run_copy_row (P := Try.prog) (w.alloc (.cells Z 5)) 27 27 3 5 w.heap.size 0 T.size T.size x T.size cap Z 5 (Lib.byteCells T.data.toList) Try.underlying27 hinfo (heap_alloc_new w _) (by rw [hlen]; simp)
    (fun j v hv => by rw [World.cell?_of_block (w := w) (by exact Below.heap_alloc w _ _ (block_lt (hc j v hv)))]; exact hc j v hv) (by omega) (by intro v hv; simp [Lib.byteCells] at hv; obtain ⟨a, _, rfl⟩ := hv; rfl)
  obtain ⟨Y, hY⟩ : ∃ Y, Y = (Z.toList.take 0 ++ Lib.byteCells T.data.toList ++ Z.toList.drop (0 + (Lib.byteCells T.data.toList).length)).toArray := ⟨_, rfl⟩
  rw [← hY] at hcp
  have hYl : Y = (Lib.byteCells T.data.toList).toArray := by
    rw [hY, List.take_zero, List.nil_append, List.drop_of_length_le (by rw [Array.length_toList]; omega), List.append_nil]
  rw [hlen] at hcp
  clear hY
  subst hYl
  have heq := fun w => Lib.run_eql_slice_nil (P := Try.prog) w 27 5 (some x) T.size cap 0 0 Try.underlying27
  go_enter Try.func18, Try.ntmps18
  go_wp2
  go_ret
  have hb1 : Below w.heap.size w (w.alloc (.cells Z 5)) := (Below.refl _ w).alloc (Nat.le_refl _) _
  have hb2 : Below w.heap.size (w.alloc (.cells Z 5)) ((w.alloc (.cells Z 5)).setRow w.heap.size (Lib.byteCells T.data.toList).toArray) := ⟨rfl, rfl, rfl, by simp, fun k hk => setRow_other _ _ _ _ (by omega)⟩
  refine ⟨rfl, .inr ⟨w.heap.size, rfl, ?_⟩, hb1.trans hb2, by simp⟩
  exact setRow_heap _ _ Z _ 5 (0, 0) (heap_alloc_new w _)

/-- cloneBytesB1 of nil. -/
theorem clone_nil (w : World) : Calls Try.prog 18 #[.slice none 0 0] w fun e w' => e = .returned (.slice none 0 0) ∧ w' = w := by
  have heq := fun w => Lib.run_eql_slice_nil (P := Try.prog) w 27 5 none 0 0 0 0 Try.underlying27
  go_enter Try.func18, Try.ntmps18
  go_wp2
  go_ret
  exact ⟨rfl, rfl⟩

/-- A slice of bytes that came in: its bytes are T. -/
def ArgIs (w : World) (a : Option Addr) (cap : Nat) (T : ByteArray) : Prop :=
  (a = none ∧ T.size = 0 ∧ cap = 0) ∨ ∃ x, a = some x ∧ ∀ j v, (Lib.byteCells T.data.toList)[j]? = some v → w.cell? (x.add j) = some v

theorem clone_any (a0 : Option Addr) (cap : Nat) (T : ByteArray) (w : World) (hn : T.size ≤ 10000000) (h : ArgIs w a0 cap T) :
    Calls Try.prog 18 #[.slice a0 T.size cap] w fun e w' => ∃ a c, e = .returned (.slice a T.size c) ∧ TextIs w' (.slice a T.size c) T ∧ Below w.heap.size w w' := by
  rcases h with ⟨rfl, h0, rfl⟩ | ⟨x, rfl, hc⟩
  · rw [h0]
    refine (clone_nil w).mono ?_
    rintro e w' ⟨rfl, rfl⟩
    exact ⟨none, 0, rfl, .inl ⟨rfl, h0⟩, Below.refl _ _⟩
  · refine (clone_some x T cap w hn hc).mono ?_
    rintro e w' ⟨rfl, h1, h2, _⟩
    exact ⟨_, _, rfl, h1, h2⟩

/-- The cells of a reader. -/
def rcells (tv : Value) (p : Nat) (ev sc : Value) : Array Value := #[tv, .int .i64 (p : Int), ev, .bool false, .slice none 0 0, .slice none 0 0, sc]

/-- NewReader. -/
theorem new19 (a : Option Addr) (n cap : Nat) (w : World) : Calls Try.prog 19 #[.slice a n cap] w fun e w' => e = .returned (.pointer (some ⟨w.heap.size + 1, 0, none⟩)) ∧ w' = (w.alloc (.cells #[.slice none 0 0] 27)).alloc (.cells (rcells (.slice a n cap) 0 .nilIface (.pointer (some ⟨w.heap.size, 0, none⟩))) 55) := by
  go_enter Try.func19, Try.ntmps19
  go_wp2
  go_ret
  exact ⟨rfl, rfl⟩

end Go.Proofs.Qxb6613739a
