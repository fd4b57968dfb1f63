import Derived.Test.Qxb6613686aTake
import Derived.Test.Qxb6613686aNew
namespace Go.Proofs.Qxb6613686a
open Go.RowKit

/-- The loop's relation: k chunks are taken. -/
structure Taken (n k : Nat) (w wr : World) : Prop where
  below : Below w.heap.size w wr
  size : w.heap.size + 3 ≤ wr.heap.size
  now : ∃ sv xs, wr.heap[w.heap.size + 2]? = some (.cells (kcells (.slice (some ⟨w.heap.size, 0, none⟩) n n) sv k (.slice none 0 0) (.map (some (w.heap.size + 1))) (.slice none 0 0)) 47 (0, 0)) ∧ wr.ownsRow (w.heap.size + 3) 39 1 sv xs.length xs ∧ xs.length = (k + 8191) / 8192

theorem taken_start {n : Nat} {w wr : World} (h : Fresh n n w wr) : Taken n 0 w wr :=
  ⟨h.below, by rw [h.size]; exact Nat.le_refl _, .slice none 0 0, [], h.holder, World.ownsRow_nil _ _ _ _, rfl⟩

theorem taken_step {n k : Nat} {w wr w' : World} {sv : Value} {xs : List Value} (h : Taken n k w wr) (hx : xs.length = (k + 8191) / 8192)
    (ht : Took (w.heap.size + 2) (w.heap.size + 3) k (.slice (some ⟨w.heap.size, 0, none⟩) n n) (.slice none 0 0) (.map (some (w.heap.size + 1))) (.slice none 0 0) sv xs wr w') : Taken n (k + 1) w w' := by
  obtain ⟨hb, _, sv', xs', h1, h2, h3⟩ := ht
  have := hb.size
  have := h.size
  refine ⟨h.below.trans (hb.mono (by omega)), by omega, sv', xs', h1, h2, ?_⟩
  rcases h3 with ⟨hm, _, rfl⟩ | ⟨hm, rfl, _⟩
  · omega
  · simp; omega

theorem taken_count {n k : Nat} {w wr : World} (h : Taken n k w wr) : ∃ a cap, wr.cell? ⟨w.heap.size + 2, 1, none⟩ = some (.slice a ((k + 8191) / 8192) cap) := by
  obtain ⟨sv, xs, hk, hown, hx⟩ := h.now
  rcases hown.2 with ⟨rfl, h0⟩ | ⟨g, cap, _, rfl, _⟩
  · exact ⟨none, 0, by rw [cell_of_row _ _ _ _ _ _ hk, ← hx, h0]; rfl⟩
  · exact ⟨_, cap, by rw [cell_of_row _ _ _ _ _ _ hk, ← hx]; rfl⟩

set_option maxHeartbeats 800000 in
theorem counts_main (n m : Nat) (hn : n ≤ 65536) (hm : m ≤ 16384) (w : World) :
    Calls Try.prog 6 #[.int .i64 (n : Int), .int .i64 (m : Int)] w fun e w' => e = .returned (.bool true) ∧ Below w.heap.size w w' := by
  go_enter Try.func6, Try.ntmps6
  go_wp2_with fail
  refine (new_any n hn w).mono ?_
  rintro e w1 ⟨rfl, hF⟩
  have hT := taken_start hF
  obtain ⟨a, cap, hc⟩ := taken_count hT
  clear hF
  go_wp2_with fail
  refine (count_any (w.heap.size + 2) 0 cap a w1 hc).mono ?_
  rintro e w2 ⟨rfl, rfl⟩
  clear hc
  go_wp2
  go_loopw [6] (fun i wr => ∃ k : Nat, k ≤ m ∧ i = .int .i64 k ∧ Taken n k w wr) (fun i _ => m - (intOf i).toNat)
  case atStart => exact ⟨0, Nat.zero_le _, rfl, hT⟩
  case round =>
    clear hT
    obtain ⟨k, hk, rfl, hT⟩ := hrel
    by_cases hlt : k < m
    · obtain ⟨sv, xs, h1, h2, h3⟩ := hT.now
      have hsz := hT.size
      go_wp2_with fail
      refine (take_any (w.heap.size + 2) (w.heap.size + 3) k _ _ _ _ sv xs wr (by omega) (by omega) hsz h1 h2 (by omega)).mono ?_
      rintro e w1 ⟨rfl, ht⟩
      have hT1 := taken_step hT h3 ht
      clear hT ht h1 h2 h3 hsz
      obtain ⟨a, cap, hc⟩ := taken_count hT1
      go_wp2_with fail
      refine (count_any (w.heap.size + 2) _ cap a w1 hc).mono ?_
      rintro e w2 ⟨rfl, rfl⟩
      clear hc
      go_wp2
      go_roundw
      case rel => exact ⟨k + 1, by omega, by go_num, hT1⟩
      case measure => simp [intOf]; omega
    · go_wp2
      go_ret
      exact ⟨rfl, hT.below⟩

theorem counts_out (a0 a1 : Int) (h : a0 < 0 ∨ 65536 < a0 ∨ a1 < 0 ∨ 16384 < a1) (w : World) :
    Calls Try.prog 6 #[.int .i64 a0, .int .i64 a1] w fun e w' => e = .returned (.bool true) ∧ Below w.heap.size w w' := by
  by_cases g0 : a0 < 0
  · go_enter Try.func6, Try.ntmps6
    go_wp2
    go_ret
    exact ⟨rfl, Below.refl _ _⟩
  by_cases g1 : 65536 < a0
  · go_enter Try.func6, Try.ntmps6
    go_wp2
    go_ret
    exact ⟨rfl, Below.refl _ _⟩
  by_cases g2 : a1 < 0
  · go_enter Try.func6, Try.ntmps6
    go_wp2
    go_ret
    exact ⟨rfl, Below.refl _ _⟩
  have g3 : 16384 < a1 := by omega
  go_enter Try.func6, Try.ntmps6
  go_wp2
  go_ret
  exact ⟨rfl, Below.refl _ _⟩

theorem counts_walk (a0 a1 : Int) (w : World) :
    Calls Try.prog 6 #[.int .i64 a0, .int .i64 a1] w fun e w' => e = .returned (.bool true) ∧ Below w.heap.size w w' := by
  by_cases h : a0 < 0 ∨ 65536 < a0 ∨ a1 < 0 ∨ 16384 < a1
  · exact counts_out a0 a1 h w
  · obtain ⟨n, rfl⟩ : ∃ n : Nat, a0 = (n : Int) := ⟨a0.toNat, by omega⟩
    obtain ⟨m, rfl⟩ : ∃ m : Nat, a1 = (m : Int) := ⟨a1.toNat, by omega⟩
    exact counts_main n m (by omega) (by omega) w

end Go.Proofs.Qxb6613686a
