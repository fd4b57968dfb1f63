import Derived.Test.Qxb6613686aRows
import Derived.WalkKit
import Derived.Deep.AppendLies
import Derived.Deep.RegionLaw
import Derived.Deep.DrawnRows
namespace Go.Proofs.Qxb6613686a
open Go.RowKit

theorem Try.info39 : (Try.prog.info? 39).map (fun i => (i.zero, i.size, i.bytes)) = some (some (.slice none 0 0), 1, 24) := by kernel_rfl
theorem Try.info5 : (Try.prog.info? 5).map (fun i => (i.zero, i.size, i.bytes)) = some (some (.int .u8 0), 1, 1) := by kernel_rfl
theorem Try.info50 : (Try.prog.info? 50).map (fun i => (i.zero, i.size, i.bytes)) = some (some (.agg #[.int .i64 0, .int .i64 0, .int .u32 0, .int .u32 0, .int .i32 0, .int .i32 0, .int .i32 0]), 7, 40) := by kernel_rfl

/-- n zero bytes. -/
def zeros (n : Nat) : Array Value := Array.replicate n (.int .u8 0)

theorem run_zeros (n : Nat) (L : Int) (hL : L = (n : Int)) (hn : n ≤ 281474976710656) (w : World) : (Instr.makeSlice 39 (.int .i64 L) (.int .i64 L)).run Try.prog w = .ok (.slice (some ⟨w.heap.size, 0, none⟩) n n) (w.alloc (.cells (zeros n) 5)) := by
  obtain ⟨i0, hi, hz0, hz1, hz2⟩ := info_parts Try.info5
  subst hL
  rw [run_make (P := Try.prog) w 39 5 i0 (.int .u8 0) Try.underlying39 hi hz0 .i64 .i64 n n (by omega) (by omega) (by rw [hz2]; omega) (by omega)]
  rw [hz1]
  have e : madeCells (Value.int .u8 0).cells ((n : Int).toNat * 1) = zeros n := by
    unfold zeros
    apply Array.toList_inj.1
    rw [show (Value.int .u8 0).cells = #[.int .u8 0] from rfl, toList_madeCells_one]
    simp
  rw [e]
  simp

theorem run_slab (w : World) : (Instr.makeSlice 39 (.int .i64 1048576) (.int .i64 1048576)).run Try.prog w = .ok (.slice (some ⟨w.heap.size, 0, none⟩) 1048576 1048576) (w.alloc (.cells (zeros 1048576) 5)) :=
  run_zeros 1048576 1048576 (by omega) (by omega) w

end Go.Proofs.Qxb6613686a
