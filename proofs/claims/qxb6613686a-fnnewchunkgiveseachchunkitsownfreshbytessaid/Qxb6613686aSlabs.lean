import Derived.Test.Qxb6613686aTake
import Derived.Test.Qxb6613686aNew
import Derived.Deep.OwnRows
namespace Go.Proofs.Qxb6613686a
open Go.RowKit
set_option linter.unusedVariables false
set_option linter.unusedSimpArgs false

/-- Byte number d of the stamp c + 1. -/
def stampB (c d : Nat) : Int := ((c + 1) / 256 ^ d % 256 : Nat)

/-- What byte q of all slabs laid end to end holds once the first k chunks are stamped. -/
def cont (pos k q : Nat) : Int := if q / 128 < k ∧ pos ≤ q % 128 ∧ q % 128 < pos + 4 then stampB (q / 128) (q % 128 - pos) else 0

structure St (m pos k h : Nat) (sv : Value) (gs : List Nat) (w wr : World) : Prop where
  below : Below w.heap.size w wr
  size : w.heap.size + 4 ≤ wr.heap.size
  holder : wr.heap[w.heap.size + 2]? = some (.cells (kcells (.slice (some ⟨w.heap.size, 0, none⟩) 0 0) sv h (.slice none 0 0) (.map (some (w.heap.size + 1))) (.slice none 0 0)) 47 (0, 0))
  own : wr.ownsRow (w.heap.size + 4) 39 1 sv gs.length (gs.map slabV)
  len : gs.length = (h + 8191) / 8192
  nodup : gs.Nodup
  high : ∀ g ∈ gs, w.heap.size + 4 ≤ g
  slabs : ∀ s (hs : s < gs.length), wr.rowIs gs[s] 5 1048576 (fun p => .int .u8 (cont pos k (s * 1048576 + p)))
  nums : wr.rowIs (w.heap.size + 3) 31 m (fun j => .int .u32 (if j < k then (j : Int) else 0))

theorem rowIs_ne {w : World} {b b' t t' n n' : Nat} {f f' : Nat → Value} (h : w.rowIs b t n f) (h' : w.rowIs b' t' n' f') (ht : t ≠ t') : b ≠ b' := by
  rintro rfl
  obtain ⟨c, hc, _⟩ := h
  obtain ⟨c', hc', _⟩ := h'
  rw [hc] at hc'
  simp at hc'
  exact ht hc'.2

theorem own_ne {w : World} {base b t n k e : Nat} {f : Nat → Value} {v : Value} {xs : List Value} (h : w.rowIs b t n f) (ho : w.ownsRow base e 1 v k xs) (ht : t ≠ e) : some b ≠ v.ownBlock := by
  obtain ⟨c, hc, _⟩ := h
  rcases ho.2 with ⟨rfl, _⟩ | ⟨g, cap, cur, rfl, _, hg, _⟩
  · simp [Value.ownBlock]
  · simp only [Value.ownBlock, ne_eq, Option.some.injEq]
    rintro rfl
    rw [hc] at hg
    simp at hg
    exact ht hg.2

theorem zeros_row (w : World) (b : Nat) (h : w.heap[b]? = some (.cells (zeros 1048576) 5 (0, 0))) : w.rowIs b 5 1048576 (fun _ => .int .u8 0) :=
  ⟨_, h, by simp [zeros], fun i hi => by simp [zeros, hi]⟩

theorem st_start {m pos : Nat} {w w1 : World} (h : Fresh 0 0 w w1) : St m pos 0 0 (.slice none 0 0) [] w (w1.alloc (.cells (madeCells #[.int .u32 0] m) 31)) := by
  have hs := h.size
  refine ⟨h.below.alloc (by omega) _, by simp; omega, ?_, World.ownsRow_nil _ _ _ _, rfl, List.nodup_nil, by simp, fun s hs => by simp at hs, ?_⟩
  · rw [Below.heap_alloc _ _ _ (by omega)]; exact h.holder
  · have := World.rowIs_made w1 (.int .u32 0) m 31
    rw [hs] at this
    exact this.congr fun j _ => by simp

/-- Behind newChunk. -/
theorem st_took {m pos k : Nat} {sv : Value} {gs : List Nat} {w wr w' : World} (h : St m pos k k sv gs w wr)
    (ht : Took (w.heap.size + 2) (w.heap.size + 4) k (.slice (some ⟨w.heap.size, 0, none⟩) 0 0) (.slice none 0 0) (.map (some (w.heap.size + 1))) (.slice none 0 0) sv (gs.map slabV) wr w') :
    ∃ sv' gs', St m pos k (k + 1) sv' gs' w w' := by
  obtain ⟨hb, hkeep, sv', xs', h1, h2, h3⟩ := ht
  have hsz := hb.size
  have hs4 := h.size
  have hl := h.len
  have keepRow : ∀ {b t n : Nat} {f : Nat → Value}, wr.rowIs b t n f → t ≠ 39 → t ≠ 47 → w'.rowIs b t n f := fun {b t n f} hr ht ht' => by
    refine hr.of_block (hkeep b hr.lt ?_ (own_ne hr h.own ht))
    rintro rfl
    obtain ⟨c, hc, _⟩ := hr
    have := h.holder
    rw [hc] at this
    simp at this
    exact ht' this.2
  rcases h3 with ⟨hm, rfl, rfl⟩ | ⟨hm, rfl, h4, h5⟩
  · refine ⟨sv', gs, h.below.trans (hb.mono (by omega)), by omega, h1, by simpa using h2, by omega, h.nodup, h.high, fun s hs => keepRow (h.slabs s hs) (by decide) (by decide), keepRow h.nums (by decide) (by decide)⟩
  · refine ⟨sv', gs ++ [wr.heap.size], h.below.trans (hb.mono (by omega)), by omega, h1, by simpa using h2, by simp; omega, ?_, fun g hg => by simp at hg; rcases hg with hg | rfl; exact h.high g hg; exact hs4, fun s hs => ?_, keepRow h.nums (by decide) (by decide)⟩
    · refine List.nodup_append.2 ⟨h.nodup, by simp, ?_⟩
      intro a ha b hb
      simp at hb
      subst hb
      obtain ⟨s, hs, rfl⟩ := List.getElem_of_mem ha
      have := (h.slabs s hs).lt
      omega
    · by_cases e : s < gs.length
      · rw [List.getElem_append_left e]
        exact keepRow (h.slabs s e) (by decide) (by decide)
      · have e' : s = gs.length := by simp at hs; omega
        subst e'
        rw [List.getElem_append_right (Nat.le_refl _)]
        simp only [Nat.sub_self, List.getElem_singleton]
        refine (zeros_row w' _ h4).congr fun p hp => ?_
        unfold cont
        rw [if_neg (by omega)]

theorem st_fresh {m pos k : Nat} {sv : Value} {gs : List Nat} {w wr : World} (h : St m pos k (k + 1) sv gs w wr) (hg : k / 8192 < gs.length) (b : Nat) (hb : b < 128) :
    wr.cell? ⟨gs[k / 8192], k % 8192 * 128 + b, none⟩ = some (.int .u8 0) := by
  rw [(h.slabs _ hg).cell (by omega)]
  unfold cont
  rw [if_neg (by omega)]

theorem st_bytes {m pos k : Nat} {sv : Value} {gs : List Nat} {w wr : World} (h : St m pos k k sv gs w wr) (j : Nat) (hj : j < k) (hg : j / 8192 < gs.length) (b : Nat) (hb : b < 128) :
    wr.cell? ⟨gs[j / 8192], j % 8192 * 128 + b, none⟩ = some (.int .u8 (if pos ≤ b ∧ b < pos + 4 then stampB j (b - pos) else 0)) := by
  rw [(h.slabs _ hg).cell (by omega)]
  unfold cont
  have e1 : (j / 8192 * 1048576 + (j % 8192 * 128 + b)) / 128 = j := by omega
  have e2 : (j / 8192 * 1048576 + (j % 8192 * 128 + b)) % 128 = b := by omega
  rw [e1, e2]
  simp [hj]

theorem cont_same (pos k s p : Nat) (hp : p < 1048576) (hs : s ≠ k / 8192) : cont pos (k + 1) (s * 1048576 + p) = cont pos k (s * 1048576 + p) := by
  unfold cont
  have : (s * 1048576 + p) / 128 ≠ k := by omega
  by_cases h : (s * 1048576 + p) / 128 < k
  · simp [h, Nat.lt_succ_of_lt h]
  · have h' : ¬ (s * 1048576 + p) / 128 < k + 1 := by omega
    simp [h, h']

theorem cont_step (pos k p : Nat) (hp : p < 1048576) (hpos : pos ≤ 124) :
    (if p = k % 8192 * 128 + (pos + 3) then Value.int .u8 (stampB k 3) else if p = k % 8192 * 128 + (pos + 2) then .int .u8 (stampB k 2) else if p = k % 8192 * 128 + (pos + 1) then .int .u8 (stampB k 1) else if p = k % 8192 * 128 + pos then .int .u8 (stampB k 0) else .int .u8 (cont pos k (k / 8192 * 1048576 + p))) =
      .int .u8 (cont pos (k + 1) (k / 8192 * 1048576 + p)) := by
  by_cases hk : (k / 8192 * 1048576 + p) / 128 = k
  · have e : cont pos (k + 1) (k / 8192 * 1048576 + p) = if pos ≤ (k / 8192 * 1048576 + p) % 128 ∧ (k / 8192 * 1048576 + p) % 128 < pos + 4 then stampB k ((k / 8192 * 1048576 + p) % 128 - pos) else 0 := by
      unfold cont; rw [hk]; simp
    have e0 : cont pos k (k / 8192 * 1048576 + p) = 0 := by unfold cont; rw [if_neg (by omega)]
    rw [e, e0]
    by_cases h3 : p = k % 8192 * 128 + (pos + 3)
    · rw [if_pos h3, if_pos (by omega), show (k / 8192 * 1048576 + p) % 128 - pos = 3 by omega]
    rw [if_neg h3]
    by_cases h2 : p = k % 8192 * 128 + (pos + 2)
    · rw [if_pos h2, if_pos (by omega), show (k / 8192 * 1048576 + p) % 128 - pos = 2 by omega]
    rw [if_neg h2]
    by_cases h1 : p = k % 8192 * 128 + (pos + 1)
    · rw [if_pos h1, if_pos (by omega), show (k / 8192 * 1048576 + p) % 128 - pos = 1 by omega]
    rw [if_neg h1]
    by_cases h0 : p = k % 8192 * 128 + pos
    · rw [if_pos h0, if_pos (by omega), show (k / 8192 * 1048576 + p) % 128 - pos = 0 by omega]
    rw [if_neg h0, if_neg (by omega)]
  · rw [if_neg (by omega), if_neg (by omega), if_neg (by omega), if_neg (by omega)]
    unfold cont
    by_cases h : (k / 8192 * 1048576 + p) / 128 < k
    · simp [h, Nat.lt_succ_of_lt h]
    · have h' : ¬ (k / 8192 * 1048576 + p) / 128 < k + 1 := by omega
      simp [h, h']

/-- The chunk's stamp and its number are written. -/
theorem st_stamp {m pos k : Nat} {sv : Value} {gs : List Nat} {w wr : World} (h : St m pos k (k + 1) sv gs w wr) (hp : pos ≤ 124) (hg : k / 8192 < gs.length) :
    St m pos (k + 1) (k + 1) sv gs w (((((wr.setCell ⟨gs[k / 8192], k % 8192 * 128 + pos, none⟩ (.int .u8 (stampB k 0))).setCell ⟨gs[k / 8192], k % 8192 * 128 + (pos + 1), none⟩ (.int .u8 (stampB k 1))).setCell ⟨gs[k / 8192], k % 8192 * 128 + (pos + 2), none⟩ (.int .u8 (stampB k 2))).setCell
      ⟨gs[k / 8192], k % 8192 * 128 + (pos + 3), none⟩ (.int .u8 (stampB k 3))).setCell ⟨w.heap.size + 3, k, none⟩ (.int .u32 (k : Int))) := by
  have hgr := h.slabs _ hg
  have hge := h.high _ (List.getElem_mem hg)
  obtain ⟨hb, hsz, hh, ho, hl, hn, hhi, hs, hnu⟩ := h
  have hne3 : gs[k / 8192] ≠ w.heap.size + 3 := by omega
  have hne2 : gs[k / 8192] ≠ w.heap.size + 2 := by omega
  have hnsv : sv.ownBlock ≠ some gs[k / 8192] := Ne.symm (own_ne hgr ho (by decide))
  have hnsv3 : sv.ownBlock ≠ some (w.heap.size + 3) := Ne.symm (own_ne hnu ho (by decide))
  refine ⟨?_, by simpa using hsz, ?_, ?_, hl, hn, hhi, fun s hs' => ?_, ?_⟩
  · exact ((((hb.setCell (p := ⟨gs[k / 8192], _, none⟩) (by simp; omega) _).setCell (p := ⟨gs[k / 8192], _, none⟩) (by simp; omega) _).setCell (p := ⟨gs[k / 8192], _, none⟩) (by simp; omega) _).setCell (p := ⟨gs[k / 8192], _, none⟩) (by simp; omega) _).setCell (p := ⟨w.heap.size + 3, k, none⟩) (by simp) _
  · rw [heap_setCell_other _ _ _ _ (by simp), heap_setCell_other _ _ _ _ (Ne.symm hne2), heap_setCell_other _ _ _ _ (Ne.symm hne2), heap_setCell_other _ _ _ _ (Ne.symm hne2), heap_setCell_other _ _ _ _ (Ne.symm hne2)]
    exact hh
  · exact ownsRow_setCell_other (ownsRow_setCell_other (ownsRow_setCell_other (ownsRow_setCell_other (ownsRow_setCell_other ho (a := ⟨gs[k / 8192], _, none⟩) hnsv _) (a := ⟨gs[k / 8192], _, none⟩) hnsv _) (a := ⟨gs[k / 8192], _, none⟩) hnsv _) (a := ⟨gs[k / 8192], _, none⟩) hnsv _) (a := ⟨w.heap.size + 3, _, none⟩) hnsv3 _
  · by_cases e : s = k / 8192
    · subst e
      refine World.rowIs.setOther ?_ hne3 _
      refine ((((hgr.set (k % 8192 * 128 + pos) (.int .u8 (stampB k 0))).set (k % 8192 * 128 + (pos + 1)) (.int .u8 (stampB k 1))).set (k % 8192 * 128 + (pos + 2)) (.int .u8 (stampB k 2))).set (k % 8192 * 128 + (pos + 3)) (.int .u8 (stampB k 3))).congr fun p hp' => ?_
      exact cont_step pos k p hp' hp
    · have hd : gs[s] ≠ gs[k / 8192] := fun e' => e ((List.getElem_inj hn).1 e')
      have hge' := hhi _ (List.getElem_mem hs')
      refine World.rowIs.congr ?_ fun p hp' => by rw [cont_same pos k s p hp' e]
      exact ((((hs s hs').setOther hd _).setOther hd _).setOther hd _ |>.setOther hd _).setOther (by simp; omega) _
  · refine (World.rowIs.set ((((hnu.setOther (Ne.symm hne3) _).setOther (Ne.symm hne3) _).setOther (Ne.symm hne3) _).setOther (Ne.symm hne3) _) k (.int .u32 (k : Int))).congr fun j hj => ?_
    by_cases e : j = k
    · subst e; simp
    · by_cases e2 : j < k
      · simp [e, e2, Nat.lt_succ_of_lt e2]
      · have : ¬ j < k + 1 := by omega
        simp [e, e2, this]

/-- The list of slabs as chunk reads it. -/
theorem st_read {m pos k h : Nat} {sv : Value} {gs : List Nat} {w wr : World} (H : St m pos k h sv gs w wr) (s : Nat) (hs : s < gs.length) :
    ∃ g0 cap, wr.cell? ⟨w.heap.size + 2, 1, none⟩ = some (.slice (some ⟨g0, 0, none⟩) gs.length cap) ∧ wr.cell? ⟨g0, s, none⟩ = some (.slice (some ⟨gs[s], 0, none⟩) 1048576 1048576) := by
  have ho := H.own
  rcases ho.2 with ⟨_, h0⟩ | ⟨g0, cap, _, rfl, _⟩
  · omega
  · refine ⟨g0, cap, by rw [cell_of_row _ _ _ _ _ _ H.holder]; rfl, ?_⟩
    rw [ho.cellAt s (by omega)]
    simp [hs, slabV]

theorem chunk20 (kb n g0 L cap g : Nat) (w : World) (hn : n ≤ 100000) (hL : n / 8192 < L) (c1 : w.cell? ⟨kb, 1, none⟩ = some (.slice (some ⟨g0, 0, none⟩) L cap)) (c2 : w.cell? ⟨g0, n / 8192, none⟩ = some (.slice (some ⟨g, 0, none⟩) 1048576 1048576)) :
    Calls Try.prog 20 #[.pointer (some ⟨kb, 0, none⟩), .int .u32 (n : Int)] w fun e w' => e = .returned (.slice (some ⟨g, n % 8192 * 128, none⟩) 128 (1048576 - n % 8192 * 128)) ∧ w' = w := by
  have hL' : ((n : Int) / 8192) < (L : Int) := by omega
  go_enter Try.func20, Try.ntmps20
  go_wp2
  go_ret
  exact ⟨by rw [Nat.add_sub_cancel_left]; rfl, rfl⟩

theorem chunk_any (kb n g0 L cap g : Nat) (w : World) (hn : n ≤ 100000) (hL : n / 8192 < L) (c1 : w.cell? ⟨kb, 1, none⟩ = some (.slice (some ⟨g0, 0, none⟩) L cap)) (c2 : w.cell? ⟨g0, n / 8192, none⟩ = some (.slice (some ⟨g, 0, none⟩) 1048576 1048576)) :
    Calls Try.prog 19 #[.pointer (some ⟨kb, 0, none⟩), .int .u32 (n : Int)] w fun e w' => e = .returned (.slice (some ⟨g, n % 8192 * 128, none⟩) 128 (1048576 - n % 8192 * 128)) ∧ w' = w := by
  go_enter Try.func19, Try.ntmps19
  go_wp2_with fail
  refine (chunk20 kb n g0 L cap g w hn hL c1 c2).mono ?_
  rintro e w' ⟨rfl, rfl⟩
  go_wp2
  go_ret
  exact ⟨rfl, rfl⟩

end Go.Proofs.Qxb6613686a
