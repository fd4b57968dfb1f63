import Derived.Test.Qxb6613739aBool
import Derived.Deep.QuietTactic
import Derived.BigQuiet
import Derived.LaidEqlPtr
namespace Go.Proofs.Qxb6613739a
open Go.RowKit
set_option linter.unusedVariables false
set_option linter.unusedSimpArgs false

/-- A pointer is not other than itself. -/
theorem run_neq_ptr (a : Addr) (w : World) : (binOp .neq 24 (.pointer (some a)) (.pointer (some a))).run Try.prog w = .ok (.bool false) w := by
  have hte : (Try.prog.info? 50).isSome = true := by kernel_rfl
  obtain ⟨j, hj⟩ := Option.isSome_iff_exists.1 hte
  have h : ∀ d : Nat, (Op.equalIn (d + 1) 24 (.pointer (some a)) (.pointer (some a))).run Try.prog w = .ok true w := fun d => by
    simp [Op.equalIn, run_underlying Try.underlying24, sizeOf, typeInfo, hj, run_sameAddr_same]
  simp only [binOp]
  simp [Op.equal, Op.maxDepth, h 9999]

theorem buf12 (wb : Nat) (v : Value) (w : World) (c0 : w.cell? ⟨wb, 0, none⟩ = some v) : Calls Try.prog 12 #[.pointer (some ⟨wb, 0, none⟩)] w fun e w' => e = .returned v ∧ w' = w := by
  go_enter Try.func12, Try.ntmps12
  go_wp2
  go_ret
  exact ⟨rfl, rfl⟩
theorem more13 (wb : Nat) (x : Bool) (w : World) (c1 : w.cell? ⟨wb, 1, none⟩ = some (.bool x)) : Calls Try.prog 13 #[.pointer (some ⟨wb, 0, none⟩)] w fun e w' => e = .returned (.bool x) ∧ w' = w := by
  go_enter Try.func13, Try.ntmps13
  go_wp2
  go_ret
  exact ⟨rfl, rfl⟩
theorem err14 (wb : Nat) (w : World) (c2 : w.cell? ⟨wb, 2, none⟩ = some .nilIface) : Calls Try.prog 14 #[.pointer (some ⟨wb, 0, none⟩)] w fun e w' => e = .returned (.bool true) ∧ w' = w := by
  go_enter Try.func14, Try.ntmps14
  go_wp2
  go_ret
  exact ⟨rfl, rfl⟩

/-- zzBytes of the writer's law. -/
theorem bytes7 (a : Option Addr) (n cap : Nat) (z : Int) (w : World) (hn : n ≤ maxLen) : Calls Try.prog 7 #[.slice a n cap, .int .i64 z] w fun e w' => e = .returned (.bool (decide (n ≤ 1048576))) ∧ w' = w := by
  unfold maxLen at hn
  by_cases h : n ≤ 1048576
  · have h' : (n : Int) ≤ 1048576 := by omega
    rw [decide_eq_true h]
    go_enter Try.func7, Try.ntmps7
    go_wp2
    go_ret
    exact ⟨rfl, rfl⟩
  · have h' : (1048576 : Int) < n := by omega
    rw [decide_eq_false h]
    go_enter Try.func7, Try.ntmps7
    go_wp2
    go_ret
    exact ⟨rfl, rfl⟩
/-- zzBytes of the reader's law. -/
theorem bytes25 (a : Option Addr) (n cap : Nat) (w : World) (hn : n ≤ maxLen) : Calls Try.prog 25 #[.slice a n cap] w fun e w' => e = .returned (.bool (decide (n ≤ 1048576))) ∧ w' = w := by
  unfold maxLen at hn
  by_cases h : n ≤ 1048576
  · have h' : (n : Int) ≤ 1048576 := by omega
    rw [decide_eq_true h]
    go_enter Try.func25, Try.ntmps25
    go_wp2
    go_ret
    exact ⟨rfl, rfl⟩
  · have h' : (1048576 : Int) < n := by omega
    rw [decide_eq_false h]
    go_enter Try.func25, Try.ntmps25
    go_wp2
    go_ret
    exact ⟨rfl, rfl⟩

theorem own_cell {w : World} {B : Nat} {v : Value} {L : List UInt8} (ho : w.ownsRow B 5 1 v L.length (Lib.byteCells L)) (h0 : 0 < L.length) :
    ∃ g cap, v = .slice (some ⟨g, 0, none⟩) L.length cap ∧ ∀ i, i < L.length → w.cell? ⟨g, i, none⟩ = some (.int .u8 ((L.getD i 0).toNat : Int)) := by
  have h := ho
  rcases ho.2 with ⟨_, h1⟩ | ⟨g, cap, _, rfl, _⟩
  · omega
  · refine ⟨g, cap, rfl, fun i hi => ?_⟩
    rw [h.cellAt i (by omega)]
    simp [Lib.byteCells, hi]

set_option maxHeartbeats 1600000 in
/-- bytesEqualB1 of two rows that hold the same. -/
theorem equal11 (B1 B2 : Nat) (v1 v2 : Value) (L : List UInt8) (w : World) (hL : L.length ≤ 1000000) (h1 : w.ownsRow B1 5 1 v1 L.length (Lib.byteCells L)) (h2 : w.ownsRow B2 5 1 v2 L.length (Lib.byteCells L)) :
    Calls Try.prog 11 #[v1, v2] w fun e w' => e = .returned (.bool true) ∧ ∃ nq, w' = w.drewN nq := by
  by_cases h0 : 0 < L.length
  · obtain ⟨g1, cap1, rfl, c1⟩ := own_cell h1 h0
    obtain ⟨g2, cap2, rfl, c2⟩ := own_cell h2 h0
    have C1 : Hid (∀ i, i < L.length → w.cell? ⟨g1, i, none⟩ = some (.int .u8 ((L.getD i 0).toNat : Int))) := c1
    have C2 : Hid (∀ i, i < L.length → w.cell? ⟨g2, i, none⟩ = some (.int .u8 ((L.getD i 0).toNat : Int))) := c2
    clear c1 c2 h1 h2
    obtain ⟨n, hn⟩ : ∃ n, n = L.length := ⟨_, rfl⟩
    rw [← hn] at C1 C2 hL h0 ⊢
    clear hn
    go_enter Try.func11, Try.ntmps11
    go_wp2
    go_loopw [5] (fun i wr => ∃ k : Nat, k ≤ n ∧ i = .int .i64 k ∧ ∃ nq, wr = w.drewN nq) (fun i _ => n - (intOf i).toNat)
    case atStart => exact ⟨0, Nat.zero_le _, rfl, 0, rfl⟩
    case round =>
      obtain ⟨k, hk, rfl, n0, rfl⟩ := hrel
      by_cases hlt : k < n
      · obtain ⟨x, hx⟩ : ∃ x : Int, x = ((L.getD k 0).toNat : Int) := ⟨_, rfl⟩
        have d1 : w.cell? ⟨g1, k, none⟩ = some (.int .u8 x) := by rw [hx]; exact C1.out k hlt
        have d2 : w.cell? ⟨g2, k, none⟩ = some (.int .u8 x) := by rw [hx]; exact C2.out k hlt
        clear hx
        have hi0 : (0 : Int) ≤ (k : Int) := by omega
        have hi1 : (k : Int) < (n : Int) := by omega
        go_wp2
        go_quiet (fail)
        go_wp2
        go_roundw
        case rel => exact ⟨k + 1, by omega, by go_num, _, rfl⟩
        case measure => simp [intOf]; omega
      · go_wp2
        go_ret
        exact ⟨rfl, n0, rfl⟩
  · have e0 : L.length = 0 := by omega
    rw [e0] at h1 h2
    obtain ⟨a1, cap1, rfl⟩ := own_shape h1
    obtain ⟨a2, cap2, rfl⟩ := own_shape h2
    go_enter Try.func11, Try.ntmps11
    go_wp2
    refine wp_loop_rounds 1 ?_
    rw [rounds_succ]
    go_wp2
    go_ret
    exact ⟨rfl, 0, rfl⟩

theorem Wr.below {B wb N : Nat} {L : List UInt8} {more : Bool} {w w' : World} (h : Wr B wb L more w) (hb : Below w.heap.size w w') : Wr B wb L more w' := by
  obtain ⟨bv, hr, ho⟩ := h.now
  refine ⟨h.low, bv, by rw [hb.block wb (Array.getElem?_eq_some_iff.1 hr).1]; exact hr, ?_⟩
  refine ho.kept (row := none) ⟨hb.os, hb.tape, hb.output, hb.size, fun k hk _ => hb.block k hk⟩ ?_
  cases hv : bv.ownBlock with
  | none => exact .inl rfl
  | some k => exact .inr (by simp)

theorem Wr.drewN {B wb : Nat} {L : List UInt8} {more : Bool} {w : World} (h : Wr B wb L more w) (n : Nat) : Wr B wb L more (w.drewN n) := ⟨h.low, h.now⟩

end Go.Proofs.Qxb6613739a
