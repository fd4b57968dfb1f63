import Derived.Test.Qxb6613686aSlabs
namespace Go.Proofs.Qxb6613686a
open Go.RowKit
set_option linter.unusedVariables false
set_option linter.unusedSimpArgs false

theorem Try.info31 : (Try.prog.info? 31).map (fun i => (i.zero, i.size, i.bytes)) = some (some (.int .u32 0), 1, 4) := by kernel_rfl

/-- What the first loop's round wants of the world behind newChunk. -/
theorem st_mid {m pos k : Nat} {sv : Value} {gs : List Nat} {w wr : World} (h : St m pos k (k + 1) sv gs w wr) (hm : k < m) (hp : pos ≤ 124) (hk : k ≤ 16384) :
    ∃ g g0 cap, wr.cell? ⟨w.heap.size + 2, 1, none⟩ = some (.slice (some ⟨g0, 0, none⟩) (k / 8192 + 1) cap) ∧ wr.cell? ⟨g0, k / 8192, none⟩ = some (.slice (some ⟨g, 0, none⟩) 1048576 1048576) ∧
      (∀ b, b < 128 → wr.cell? ⟨g, k % 8192 * 128 + b, none⟩ = some (.int .u8 0)) ∧ (∀ o, wr.frozen? ⟨g, o, none⟩ = false) ∧
      (∃ u, wr.cell? ⟨w.heap.size + 3, k, none⟩ = some u) ∧ wr.frozen? ⟨w.heap.size + 3, k, none⟩ = false ∧ g ≠ w.heap.size + 3 ∧
      St m pos (k + 1) (k + 1) sv gs w (((((wr.setCell ⟨g, k % 8192 * 128 + pos, none⟩ (.int .u8 (stampB k 0))).setCell ⟨g, k % 8192 * 128 + (pos + 1), none⟩ (.int .u8 (stampB k 1))).setCell ⟨g, k % 8192 * 128 + (pos + 2), none⟩ (.int .u8 (stampB k 2))).setCell
        ⟨g, k % 8192 * 128 + (pos + 3), none⟩ (.int .u8 (stampB k 3))).setCell ⟨w.heap.size + 3, k, none⟩ (.int .u32 (k : Int))) := by
  have hlen := h.len
  have hg : k / 8192 < gs.length := by omega
  have e : gs.length = k / 8192 + 1 := by omega
  obtain ⟨g0, cap, c1, c2⟩ := st_read h (k / 8192) hg
  have hge := h.high _ (List.getElem_mem hg)
  exact ⟨gs[k / 8192], g0, cap, by rw [← e]; exact c1, c2, st_fresh h hg, (h.slabs _ hg).frozen, ⟨_, h.nums.cell hm⟩, h.nums.frozen _, by omega, st_stamp h hp hg⟩

/-- What the second loop's round wants. -/
theorem st_end {m pos : Nat} {sv : Value} {gs : List Nat} {w wr : World} (h : St m pos m m sv gs w wr) (j : Nat) (hj : j < m) (hm : m ≤ 16384) :
    ∃ g g0 L cap, j / 8192 < L ∧ wr.cell? ⟨w.heap.size + 2, 1, none⟩ = some (.slice (some ⟨g0, 0, none⟩) L cap) ∧ wr.cell? ⟨g0, j / 8192, none⟩ = some (.slice (some ⟨g, 0, none⟩) 1048576 1048576) ∧
      (∀ b, b < 128 → wr.cell? ⟨g, j % 8192 * 128 + b, none⟩ = some (.int .u8 (if pos ≤ b ∧ b < pos + 4 then stampB j (b - pos) else 0))) ∧
      wr.cell? ⟨w.heap.size + 3, j, none⟩ = some (.int .u32 (j : Int)) := by
  have hlen := h.len
  have hg : j / 8192 < gs.length := by omega
  obtain ⟨g0, cap, c1, c2⟩ := st_read h (j / 8192) hg
  refine ⟨gs[j / 8192], g0, gs.length, cap, hg, c1, c2, fun b hb => st_bytes h j hj hg b hb, ?_⟩
  rw [h.nums.cell hj]
  simp [hj]

theorem sb0 (k : Nat) : stampB k 0 = ((k : Int) + 1) % 256 := by unfold stampB; omega
theorem sb1 (k : Nat) (hk : k < 16384) : stampB k 1 = ((k : Int) + 1) / 256 := by unfold stampB; omega
theorem sb2 (k : Nat) (hk : k < 16384) : stampB k 2 = ((k : Int) + 1) / 65536 := by unfold stampB; omega
theorem sb3 (k : Nat) (hk : k < 16384) : stampB k 3 = ((k : Int) + 1) / 16777216 := by unfold stampB; omega

theorem stamp_at {m pos k g b o0 o1 o2 o3 : Nat} {sv : Value} {gs : List Nat} {w wr : World}
    (h : St m pos (k + 1) (k + 1) sv gs w (((((wr.setCell ⟨g, o0, none⟩ (.int .u8 (stampB k 0))).setCell ⟨g, o1, none⟩ (.int .u8 (stampB k 1))).setCell ⟨g, o2, none⟩ (.int .u8 (stampB k 2))).setCell ⟨g, o3, none⟩ (.int .u8 (stampB k 3))).setCell ⟨b, k, none⟩ (.int .u32 (k : Int)))) (hk : k < 16384) :
    St m pos (k + 1) (k + 1) sv gs w (((((wr.setCell ⟨g, o0, none⟩ (.int .u8 (((k : Int) + 1) % 256))).setCell ⟨g, o1, none⟩ (.int .u8 (((k : Int) + 1) / 256))).setCell ⟨g, o2, none⟩ (.int .u8 (((k : Int) + 1) / 65536))).setCell ⟨g, o3, none⟩ (.int .u8 (((k : Int) + 1) / 16777216))).setCell ⟨b, k, none⟩ (.int .u32 (k : Int))) := by
  rw [sb0, sb1 k hk, sb2 k hk, sb3 k hk] at h
  exact h

set_option maxHeartbeats 1600000 in
set_option maxRecDepth 100000 in
theorem gives_main (m pos : Nat) (hm : m ≤ 16384) (hp : pos ≤ 124) (w : World) :
    Calls Try.prog 7 #[.int .i64 (m : Int), .int .i64 (pos : Int)] w fun e w' => e = .returned (.bool true) ∧ Below w.heap.size w w' := by
  have hmk := run_make_row' (P := Try.prog) 38 31 (.int .u32 0) 4 Try.underlying38 Try.info31 rfl .i64 .i64 m (by omega) (by omega)
  go_enter Try.func7, Try.ntmps7
  go_wp2_with fail
  refine (new_any 0 (by omega) w).mono ?_
  rintro e w1 ⟨rfl, hF⟩
  have hS : St m pos 0 0 (.slice none 0 0) [] w (w1.alloc (.cells (madeCells #[.int .u32 0] m) 31)) := st_start hF
  have hs1 := hF.size
  clear hF
  go_wp2
  clear hmk
  go_loopw [7] (fun i wr => ∃ k : Nat, k ≤ m ∧ i = .int .i64 k ∧ ∃ sv gs, St m pos k k sv gs w wr) (fun i _ => m - (intOf i).toNat)
  case atStart => exact ⟨0, Nat.zero_le _, rfl, _, _, hS⟩
  case round =>
    clear hS hs1
    obtain ⟨k, hk, rfl, sv, gs, hS⟩ := hrel
    by_cases hlt : k < m
    · have hlen := hS.len
      go_wp2_with fail
      refine (take_any (w.heap.size + 2) (w.heap.size + 4) k _ _ _ _ sv (gs.map slabV) wr (by omega) (by omega) hS.size hS.holder (by simpa using hS.own) (by simp; omega)).mono ?_
      rintro e w2 ⟨rfl, ht⟩
      obtain ⟨sv', gs', hS'⟩ := st_took hS ht
      clear ht hS hlen
      obtain ⟨g, g0, cap, c1, c2, hz, hf, ⟨u, hu⟩, hfu, hne, hN⟩ := st_mid hS' hlt hp (by omega)
      have HZ : Hid (∀ b, b < 128 → w2.cell? ⟨g, k % 8192 * 128 + b, none⟩ = some (.int .u8 0)) := hz
      have HN : Hid (St m pos (k + 1) (k + 1) sv' gs' w (((((w2.setCell ⟨g, k % 8192 * 128 + pos, none⟩ (.int .u8 (stampB k 0))).setCell ⟨g, k % 8192 * 128 + (pos + 1), none⟩ (.int .u8 (stampB k 1))).setCell ⟨g, k % 8192 * 128 + (pos + 2), none⟩ (.int .u8 (stampB k 2))).setCell
        ⟨g, k % 8192 * 128 + (pos + 3), none⟩ (.int .u8 (stampB k 3))).setCell ⟨w.heap.size + 3, k, none⟩ (.int .u32 (k : Int)))) := hN
      clear hN hz hS'
      go_wp2_with fail
      refine (count_any (w.heap.size + 2) _ cap _ w2 c1).mono ?_
      rintro e w3 ⟨rfl, rfl⟩
      go_wp2_with fail
      refine (chunk_any (w.heap.size + 2) k g0 _ cap _ w3 (by omega) (by omega) c1 c2).mono ?_
      rintro e w4 ⟨rfl, rfl⟩
      clear c1 c2
      go_wp2
      go_loop [10] (fun b => ∃ j : Nat, j ≤ 128 ∧ b = .int .i64 j) (fun b => 128 - (intOf b).toNat)
      case atStart => exact ⟨0, by omega, rfl⟩
      case round =>
        obtain ⟨j, hj, rfl⟩ := hrel
        by_cases hj1 : j < 128
        · have hc := HZ.out j hj1
          go_wp2
          go_round
          case rel => exact ⟨j + 1, by omega, by go_num⟩
          case measure => simp [intOf]; omega
        · have z0 := HZ.out pos (by omega)
          have z1 := HZ.out (pos + 1) (by omega)
          have z2 := HZ.out (pos + 2) (by omega)
          have z3 := HZ.out (pos + 3) (by omega)
          clear HZ
          go_wp2
          go_roundw
          case rel => exact ⟨k + 1, by omega, by go_num, sv', gs', stamp_at HN.out (by omega)⟩
          case measure => simp [intOf]; omega
    · have e : k = m := by omega
      subst e
      go_wp2
      go_loop [12] (fun i => ∃ j : Nat, j ≤ k ∧ i = .int .i64 j) (fun i => k - (intOf i).toNat)
      case atStart => exact ⟨0, by omega, rfl⟩
      case round =>
        obtain ⟨j, hj, rfl⟩ := hrel
        by_cases hj1 : j < k
        · obtain ⟨g, g0, L, cap, hL, c1, c2, hz, hu⟩ := st_end hS j hj1 hm
          have HZ : Hid (∀ b, b < 128 → wr.cell? ⟨g, j % 8192 * 128 + b, none⟩ = some (.int .u8 (if pos ≤ b ∧ b < pos + 4 then stampB j (b - pos) else 0))) := hz
          clear hz
          go_wp2_with fail
          refine (chunk_any (w.heap.size + 2) j g0 _ cap _ wr (by omega) (by omega) c1 c2).mono ?_
          rintro e w4 ⟨rfl, rfl⟩
          clear c1 c2 hu
          go_wp2
          go_loop [15] (fun b => ∃ j : Nat, j ≤ 128 ∧ b = .int .i64 j) (fun b => 128 - (intOf b).toNat)
          case atStart => exact ⟨0, by omega, rfl⟩
          case round =>
            obtain ⟨b, hb, rfl⟩ := hrel
            by_cases hb1 : b < 128
            · have hc := HZ.out b hb1
              by_cases h1 : b < pos
              · rw [if_neg (by omega)] at hc
                go_wp2
                go_round
                case rel => exact ⟨b + 1, by omega, by go_num⟩
                case measure => simp [intOf]; omega
              by_cases h2 : pos + 4 ≤ b
              · rw [if_neg (by omega)] at hc
                go_wp2
                go_round
                case rel => exact ⟨b + 1, by omega, by go_num⟩
                case measure => simp [intOf]; omega
              rw [if_pos (by omega)] at hc
              rcases (show b = pos ∨ b = pos + 1 ∨ b = pos + 2 ∨ b = pos + 3 by omega) with rfl | rfl | rfl | rfl
              · rw [show b - b = 0 by omega, sb0 j] at hc
                go_wp2
                go_round
                case rel => exact ⟨b + 1, by omega, by go_num⟩
                case measure => simp [intOf]; omega
              · rw [show pos + 1 - pos = 1 by omega, sb1 j (by omega)] at hc
                go_wp2
                go_round
                case rel => exact ⟨pos + 1 + 1, by omega, by go_num⟩
                case measure => simp [intOf]; omega
              · rw [show pos + 2 - pos = 2 by omega, sb2 j (by omega)] at hc
                go_wp2
                go_round
                case rel => exact ⟨pos + 2 + 1, by omega, by go_num⟩
                case measure => simp [intOf]; omega
              · rw [show pos + 3 - pos = 3 by omega, sb3 j (by omega)] at hc
                go_wp2
                go_round
                case rel => exact ⟨pos + 3 + 1, by omega, by go_num⟩
                case measure => simp [intOf]; omega
            · go_wp2
              go_round
              case rel => exact ⟨j + 1, by omega, by go_num⟩
              case measure => simp [intOf]; omega
        · go_wp2
          go_ret
          exact ⟨rfl, hS.below⟩

theorem gives_out (a0 a1 : Int) (h : a0 < 0 ∨ 16384 < a0 ∨ a1 < 0 ∨ 124 < a1) (w : World) :
    Calls Try.prog 7 #[.int .i64 a0, .int .i64 a1] w fun e w' => e = .returned (.bool true) ∧ Below w.heap.size w w' := by
  by_cases g0 : a0 < 0
  · go_enter Try.func7, Try.ntmps7
    go_wp2
    go_ret
    exact ⟨rfl, Below.refl _ _⟩
  by_cases g1 : 16384 < a0
  · go_enter Try.func7, Try.ntmps7
    go_wp2
    go_ret
    exact ⟨rfl, Below.refl _ _⟩
  by_cases g2 : a1 < 0
  · go_enter Try.func7, Try.ntmps7
    go_wp2
    go_ret
    exact ⟨rfl, Below.refl _ _⟩
  have g3 : 124 < a1 := by omega
  go_enter Try.func7, Try.ntmps7
  go_wp2
  go_ret
  exact ⟨rfl, Below.refl _ _⟩

theorem gives_walk (a0 a1 : Int) (w : World) :
    Calls Try.prog 7 #[.int .i64 a0, .int .i64 a1] w fun e w' => e = .returned (.bool true) ∧ Below w.heap.size w w' := by
  by_cases h : a0 < 0 ∨ 16384 < a0 ∨ a1 < 0 ∨ 124 < a1
  · exact gives_out a0 a1 h w
  · obtain ⟨n, rfl⟩ : ∃ n : Nat, a0 = (n : Int) := ⟨a0.toNat, by omega⟩
    obtain ⟨m, rfl⟩ : ∃ m : Nat, a1 = (m : Int) := ⟨a1.toNat, by omega⟩
    exact gives_main n m (by omega) (by omega) w

end Go.Proofs.Qxb6613686a
