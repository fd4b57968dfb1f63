import Derived.Test.Qxb6613739aLit
namespace Go.Proofs.Qxb6613739a
open Go.RowKit
set_option linter.unusedVariables false
set_option linter.unusedSimpArgs false

theorem list_split (T S : List UInt8) (k : Nat) (hk : k ≤ S.length) :
    (S.length ≤ T.length ∧ T.take S.length = S) ↔ (k ≤ T.length ∧ T.take k = S.take k) ∧ (k + (S.length - k) ≤ T.length ∧ (T.drop k).take (S.length - k) = S.drop k) := by
  constructor
  · rintro ⟨h1, h2⟩
    refine ⟨⟨by omega, ?_⟩, by omega, ?_⟩
    · have := congrArg (List.take k) h2
      rw [List.take_take, show min k S.length = k by omega] at this
      exact this
    · rw [List.take_drop, show k + (S.length - k) = S.length by omega, h2]
  · rintro ⟨⟨h1, h2⟩, h3, h4⟩
    refine ⟨by omega, ?_⟩
    have e : T.take S.length = T.take k ++ (T.drop k).take (S.length - k) := by
      rw [List.take_drop, show k + (S.length - k) = S.length by omega]
      conv => lhs; rw [← List.take_append_drop k (T.take S.length)]
      rw [List.take_take, show min k S.length = k by omega]
    rw [e, h2, h4, List.take_append_drop]

theorem ext_iff (T s : ByteArray) (p : Nat) : T.extract p (p + s.size) = s ↔ (T.data.toList.drop p).take s.data.toList.length = s.data.toList := by
  constructor
  · intro h
    have := congrArg (fun x : ByteArray => x.data.toList) h
    simp only [Lib.extract_data] at this
    rw [Nat.add_sub_cancel_left, Lib.size_eq] at this
    exact this
  · intro h
    apply ByteArray.ext
    apply Array.toList_inj.1
    rw [Lib.extract_data, Nat.add_sub_cancel_left, Lib.size_eq]
    exact h

/-- A word stands at a place just where its two parts stand one behind the other. -/
theorem hit_split (T s : ByteArray) (k : Nat) (hk : k ≤ s.size) : hitB T 0 s = (hitB T 0 (s.extract 0 k) && hitB T k (s.extract k s.size)) := by
  have hs := Lib.size_eq s
  have hT := Lib.size_eq T
  have e1 : (s.extract 0 k).data.toList = s.data.toList.take k := by rw [Lib.extract_data]; simp
  have e2 : (s.extract k s.size).data.toList = s.data.toList.drop k := by
    rw [Lib.extract_data, hs]
    exact List.take_of_length_le (by simp)
  have z1 : (s.extract 0 k).size = k := by rw [Lib.size_eq, e1, List.length_take]; omega
  have z2 : (s.extract k s.size).size = s.data.toList.length - k := by rw [Lib.size_eq, e2, List.length_drop]
  have key := list_split T.data.toList s.data.toList k (by omega)
  rw [Bool.eq_iff_iff, Bool.and_eq_true]
  unfold hitB
  simp only [decide_eq_true_eq, ext_iff, e1, e2]
  simp only [Nat.zero_add, List.drop_zero, z1, z2, hs, hT]
  rw [hs] at z2
  rw [key, z2]
  simp only [List.length_take, List.length_drop]
  rw [show min k s.data.toList.length = k by omega]

theorem ext_sizes (s : ByteArray) (k : Nat) (hk : k ≤ s.size) : (s.extract 0 k).size = k ∧ (s.extract k s.size).size = s.size - k := by
  have hs := Lib.size_eq s
  refine ⟨?_, ?_⟩
  · rw [Lib.size_eq, Lib.extract_data, List.length_take, List.length_drop]; omega
  · rw [Lib.size_eq, Lib.extract_data, List.length_take, List.length_drop]; omega

/-- Two readers of one text. -/
structure Pair (r1 r2 p1 p2 : Nat) (e1 e2 s1 s2 tv : Value) (T : ByteArray) (w : World) : Prop where
  one : w.heap[r1]? = some (.cells (rcells tv p1 e1 s1) 55 (0, 0))
  two : w.heap[r2]? = some (.cells (rcells tv p2 e2 s2) 55 (0, 0))
  text : TextIs w tv T

theorem Pair.drewN {r1 r2 p1 p2 : Nat} {e1 e2 s1 s2 tv : Value} {T : ByteArray} {w : World} (h : Pair r1 r2 p1 p2 e1 e2 s1 s2 tv T w) (n : Nat) : Pair r1 r2 p1 p2 e1 e2 s1 s2 tv T (w.drewN n) := ⟨h.one, h.two, h.text⟩

/-- An error that tells of a place. -/
def ErrAt (w : World) (e : Value) (p : Nat) : Prop := ∃ b m, e = .iface 42 (.pointer (some ⟨b, 0, none⟩)) ∧ w.heap[b]? = some (.cells #[.int .i64 (p : Int), .string m] 45 (0, 0))

theorem ErrAt.drewN {w : World} {e : Value} {p : Nat} (h : ErrAt w e p) (n : Nat) : ErrAt (w.drewN n) e p := h

theorem Lit.text {rb p : Nat} {tv ev sc : Value} {T s : ByteArray} {w w' : World} (h : Lit rb p tv ev sc T s w w') (hr : w.heap[rb]? = some (.cells (rcells tv p ev sc) 55 (0, 0))) (ht : TextIs w tv T) : TextIs w' tv T := by
  refine ht.keep fun k hk ⟨cs, hc⟩ => h.keep k hk ?_
  rintro rfl
  rw [hr] at hc
  simp at hc

theorem Lit.err {rb p q : Nat} {tv ev sc e : Value} {T s : ByteArray} {w w' : World} (h : Lit rb p tv ev sc T s w w') (hr : w.heap[rb]? = some (.cells (rcells tv p ev sc) 55 (0, 0))) (he : ErrAt w e q) : ErrAt w' e q := by
  obtain ⟨b, m, rfl, hb⟩ := he
  refine ⟨b, m, rfl, ?_⟩
  rw [h.keep b (Array.getElem?_eq_some_iff.1 hb).1 ?_]
  · exact hb
  · rintro rfl
    rw [hr] at hb
    simp at hb

/-- The first reader reads. -/
theorem pair_one {r1 r2 p1 p2 : Nat} {e1 e2 s1 s2 tv : Value} {T s : ByteArray} {w w' : World} (h : Pair r1 r2 p1 p2 e1 e2 s1 s2 tv T w) (hne : r2 ≠ r1) (hl : Lit r1 p1 tv e1 s1 T s w w') :
    (hitB T p1 s = true → Pair r1 r2 (p1 + s.size) p2 e1 e2 s1 s2 tv T w') ∧ (hitB T p1 s = false → ∃ e, Pair r1 r2 p1 p2 e e2 s1 s2 tv T w' ∧ ErrAt w' e p1) := by
  have h2 : w'.heap[r2]? = some (.cells (rcells tv p2 e2 s2) 55 (0, 0)) := by rw [hl.keep r2 (Array.getElem?_eq_some_iff.1 h.two).1 hne]; exact h.two
  have ht := hl.text h.one h.text
  refine ⟨fun hh => ⟨hl.yes hh, h2, ht⟩, fun hh => ?_⟩
  obtain ⟨b, m, _, hr, hb⟩ := hl.no hh
  exact ⟨_, ⟨hr, h2, ht⟩, b, m, rfl, hb⟩

/-- The second reader reads. -/
theorem pair_two {r1 r2 p1 p2 : Nat} {e1 e2 s1 s2 tv : Value} {T s : ByteArray} {w w' : World} (h : Pair r1 r2 p1 p2 e1 e2 s1 s2 tv T w) (hne : r1 ≠ r2) (hl : Lit r2 p2 tv e2 s2 T s w w') :
    (hitB T p2 s = true → Pair r1 r2 p1 (p2 + s.size) e1 e2 s1 s2 tv T w') ∧ (hitB T p2 s = false → ∃ e, Pair r1 r2 p1 p2 e1 e s1 s2 tv T w' ∧ ErrAt w' e p2) := by
  have h1 : w'.heap[r1]? = some (.cells (rcells tv p1 e1 s1) 55 (0, 0)) := by rw [hl.keep r1 (Array.getElem?_eq_some_iff.1 h.one).1 hne]; exact h.one
  have ht := hl.text h.two h.text
  refine ⟨fun hh => ⟨h1, hl.yes hh, ht⟩, fun hh => ?_⟩
  obtain ⟨b, m, _, hr, hb⟩ := hl.no hh
  exact ⟨_, ⟨h1, hr, ht⟩, b, m, rfl, hb⟩

/-- What the walk reads of the pair. -/
theorem Pair.cells {r1 r2 p1 p2 : Nat} {e1 e2 s1 s2 tv : Value} {T : ByteArray} {w : World} (h : Pair r1 r2 p1 p2 e1 e2 s1 s2 tv T w) :
    w.cell? ⟨r1, 1, none⟩ = some (.int .i64 (p1 : Int)) ∧ w.cell? ⟨r2, 1, none⟩ = some (.int .i64 (p2 : Int)) ∧ w.cell? ⟨r1, 2, none⟩ = some e1 ∧ w.cell? ⟨r2, 2, none⟩ = some e2 :=
  ⟨by rw [cell_of_row _ _ _ _ _ _ h.one]; rfl, by rw [cell_of_row _ _ _ _ _ _ h.two]; rfl, by rw [cell_of_row _ _ _ _ _ _ h.one]; rfl, by rw [cell_of_row _ _ _ _ _ _ h.two]; rfl⟩

/-- What NewReader leaves. -/
structure NewRd (r : Nat) (tv : Value) (w w' : World) : Prop where
  below : Below w.heap.size w w'
  new : w.heap.size ≤ r
  now : ∃ sc, w'.heap[r]? = some (.cells (rcells tv 0 .nilIface sc) 55 (0, 0))

theorem new_any (a : Option Addr) (n cap : Nat) (w : World) : Calls Try.prog 19 #[.slice a n cap] w fun e w' => ∃ r, e = .returned (.pointer (some ⟨r, 0, none⟩)) ∧ NewRd r (.slice a n cap) w w' := by
  refine (new19 a n cap w).mono ?_
  rintro e w' ⟨rfl, rfl⟩
  refine ⟨_, rfl, ((Below.refl _ _).alloc (Nat.le_refl _) _).alloc (by simp) _, by omega, .pointer (some ⟨w.heap.size, 0, none⟩), ?_⟩
  show ((w.heap.push _).push _)[_]? = _
  simp only [Array.getElem?_push, Array.size_push]
  rw [if_pos trivial]

theorem TextIs.below {w w' : World} {tv : Value} {T : ByteArray} (h : TextIs w tv T) (hb : Below w.heap.size w w') : TextIs w' tv T := h.keep fun k hk _ => hb.block k hk

theorem pair_new {r1 r2 : Nat} {tv : Value} {T : ByteArray} {w w1 w2 : World} (ht : TextIs w tv T) (h1 : NewRd r1 tv w w1) (h2 : NewRd r2 tv w1 w2) : r1 ≠ r2 ∧ w.heap.size ≤ r1 ∧ w.heap.size ≤ r2 ∧ ∃ s1 s2, Pair r1 r2 0 0 .nilIface .nilIface s1 s2 tv T w2 := by
  obtain ⟨s1, hn1⟩ := h1.now
  obtain ⟨s2, hn2⟩ := h2.now
  have hlt := (Array.getElem?_eq_some_iff.1 hn1).1
  have := h2.new
  have := h1.new
  have := h1.below.size
  exact ⟨by omega, by omega, by omega, s1, s2, by rw [h2.below.block r1 hlt]; exact hn1, hn2, (ht.below h1.below).below h2.below⟩

end Go.Proofs.Qxb6613739a
