import Derived.Lib.Strings
namespace Go.Proofs.Qxb6613686a

/-- The place of s among es; how many there are, where it is not there. -/
def fnd (es : List ByteArray) (s : ByteArray) : Nat := es.findIdx (fun x => decide (x = s))

/-- es with s behind it, where it is not there. -/
def addS (es : List ByteArray) (s : ByteArray) : List ByteArray := if fnd es s < es.length then es else es ++ [s]

/-- The distinct ones among the first k, in the order of their first appearance. -/
def seenTo (S : Nat → ByteArray) : Nat → List ByteArray
  | 0 => []
  | k + 1 => addS (seenTo S k) (S k)

theorem fnd_of_mem {es : List ByteArray} {s : ByteArray} (h : s ∈ es) : fnd es s < es.length ∧ es.getD (fnd es s) ByteArray.empty = s := by
  have hlt : fnd es s < es.length := List.findIdx_lt_length_of_exists ⟨s, h, by simp⟩
  refine ⟨hlt, ?_⟩
  have := List.findIdx_getElem (p := fun x => decide (x = s)) (w := hlt)
  simp only [decide_eq_true_eq] at this
  rw [List.getD_eq_getElem?_getD, List.getElem?_eq_getElem hlt]
  exact this

theorem fnd_of_not {es : List ByteArray} {s : ByteArray} (h : s ∉ es) : fnd es s = es.length := by
  apply List.findIdx_eq_length_of_false
  intro x hx
  simp only [decide_eq_false_iff_not]
  rintro rfl
  exact h hx

theorem fnd_at {es : List ByteArray} {s : ByteArray} {j : Nat} (hj : j < es.length) (he : es.getD j ByteArray.empty = s) (hb : ∀ i, i < j → es.getD i ByteArray.empty ≠ s) : fnd es s = j := by
  have hm : s ∈ es := by
    rw [← he, List.getD_eq_getElem?_getD, List.getElem?_eq_getElem hj]
    exact List.getElem_mem hj
  obtain ⟨h1, h2⟩ := fnd_of_mem hm
  rcases Nat.lt_trichotomy (fnd es s) j with h | h | h
  · exact absurd h2 (hb _ h)
  · exact h
  · have := List.not_of_lt_findIdx (p := fun x => decide (x = s)) (xs := es) (i := j) h
    simp only [decide_eq_false_iff_not] at this
    rw [List.getD_eq_getElem?_getD, List.getElem?_eq_getElem hj] at he
    exact absurd (by simpa using he) this

theorem mem_of_getD {es : List ByteArray} {s : ByteArray} {j : Nat} (hj : j < es.length) (he : es.getD j ByteArray.empty = s) : s ∈ es := by
  rw [← he, List.getD_eq_getElem?_getD, List.getElem?_eq_getElem hj]
  exact List.getElem_mem hj

theorem not_mem_of_all {es : List ByteArray} {s : ByteArray} (h : ∀ i, i < es.length → es.getD i ByteArray.empty ≠ s) : s ∉ es := by
  intro hm
  obtain ⟨h1, h2⟩ := fnd_of_mem hm
  exact h _ h1 h2

theorem fnd_nodup {es : List ByteArray} {s : ByteArray} {j : Nat} (hn : es.Nodup) (hj : j < es.length) (he : es.getD j ByteArray.empty = s) : fnd es s = j := by
  refine fnd_at hj he fun i hi e => ?_
  rw [List.getD_eq_getElem?_getD, List.getElem?_eq_getElem hj] at he
  rw [List.getD_eq_getElem?_getD, List.getElem?_eq_getElem (by omega : i < es.length)] at e
  simp at he e
  have := (List.getElem_inj hn).1 (e.trans he.symm)
  omega

theorem addS_of_mem {es : List ByteArray} {s : ByteArray} (h : s ∈ es) : addS es s = es := by
  unfold addS; rw [if_pos (fnd_of_mem h).1]
theorem addS_of_not {es : List ByteArray} {s : ByteArray} (h : s ∉ es) : addS es s = es ++ [s] := by
  unfold addS; rw [if_neg (by rw [fnd_of_not h]; omega)]

theorem addS_nodup {es : List ByteArray} (s : ByteArray) (h : es.Nodup) : (addS es s).Nodup := by
  by_cases hs : s ∈ es
  · rw [addS_of_mem hs]; exact h
  · rw [addS_of_not hs]
    refine List.nodup_append.2 ⟨h, by simp, ?_⟩
    intro a ha b hb
    simp at hb
    subst hb
    rintro rfl
    exact hs ha

theorem addS_has {es : List ByteArray} (s : ByteArray) : s ∈ addS es s := by
  by_cases hs : s ∈ es
  · rw [addS_of_mem hs]; exact hs
  · rw [addS_of_not hs]; simp

theorem fnd_append {es : List ByteArray} {s x : ByteArray} (hx : x ∈ es) : fnd (es ++ [s]) x = fnd es x := by
  obtain ⟨h1, _⟩ := fnd_of_mem hx
  unfold fnd at *
  rw [List.findIdx_append, if_pos h1]

theorem seenTo_nodup (S : Nat → ByteArray) : ∀ k, (seenTo S k).Nodup
  | 0 => List.nodup_nil
  | k + 1 => addS_nodup _ (seenTo_nodup S k)

theorem addS_length (es : List ByteArray) (s : ByteArray) : (addS es s).length ≤ es.length + 1 := by
  unfold addS
  split <;> simp

theorem seenTo_length (S : Nat → ByteArray) : ∀ k, (seenTo S k).length ≤ k
  | 0 => Nat.le_refl _
  | k + 1 => Nat.le_trans (addS_length _ _) (Nat.succ_le_succ (seenTo_length S k))

theorem beq_same (s : ByteArray) : (s.toList == s.toList) = true := by simp
theorem beq_other {a b : ByteArray} (h : a ≠ b) : (a.toList == b.toList) = false := by
  simp only [beq_eq_false_iff_ne, ne_eq]
  intro e
  rw [Lib.toList_data, Lib.toList_data] at e
  apply h
  cases a; cases b
  simp at e
  simp [e]

end Go.Proofs.Qxb6613686a
