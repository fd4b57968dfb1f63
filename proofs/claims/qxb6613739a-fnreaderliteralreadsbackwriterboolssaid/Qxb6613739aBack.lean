import Derived.Test.Qxb6613739aPair
import Derived.Test.Qxb6613739aWords
namespace Go.Proofs.Qxb6613739a
open Go.RowKit
set_option linter.unusedVariables false
set_option linter.unusedSimpArgs false

theorem jn_opens (S : Nat → Bool) (k n : Nat) (h : k ≤ n) : ∃ R, jn S n = jn S k ++ R := by
  induction n with
  | zero => have : k = 0 := by omega
            subst this; exact ⟨[], by simp⟩
  | succ n ih =>
    by_cases e : k = n + 1
    · subst e; exact ⟨[], by simp⟩
    · obtain ⟨R, hR⟩ := ih (by omega)
      refine ⟨R ++ ((if decide (0 < n) then [44] else []) ++ (word (S n)).data.toList), ?_⟩
      show jn S n ++ (if decide (0 < n) then [44] else []) ++ (word (S n)).data.toList = _
      rw [hR]
      simp only [List.append_assoc]

/-- A word stands where it was put. -/
theorem hit_at {T s : ByteArray} {A R : List UInt8} (h : T.data.toList = A ++ s.data.toList ++ R) : hitB T A.length s = true := by
  have hT := Lib.size_eq T
  have hs := Lib.size_eq s
  rw [h] at hT
  unfold hitB
  refine decide_eq_true ⟨?_, (ext_iff T s A.length).2 ?_⟩
  · simp only [List.length_append] at hT
    omega
  · rw [h, List.append_assoc, List.drop_left]
    exact List.take_left

/-- The opposite word does not stand there. -/
theorem miss_at {T : ByteArray} {A R : List UInt8} {b : Bool} (h : T.data.toList = A ++ (word b).data.toList ++ R) : hitB T A.length (word (!b)) = false := by
  unfold hitB
  refine decide_eq_false fun hh => ?_
  have h2 := (ext_iff T (word (!b)) A.length).1 hh.2
  rw [h, List.append_assoc, List.drop_left] at h2
  cases b
  · have := congrArg List.head? h2
    simp [word] at this
  · have := congrArg List.head? h2
    simp [word] at this

/-- The text that the writer wrote. -/
def textOf (L : List UInt8) : ByteArray := ⟨L.toArray⟩
theorem textOf_list (L : List UInt8) : (textOf L).data.toList = L := rfl
theorem textOf_size (L : List UInt8) : (textOf L).size = L.length := by rw [Lib.size_eq, textOf_list]

theorem arg_of_own {w : World} {B : Nat} {v : Value} {L : List UInt8} (ho : w.ownsRow B 5 1 v L.length (Lib.byteCells L)) : ∃ a cap, v = .slice a (textOf L).size cap ∧ ArgIs w a cap (textOf L) := by
  have h := ho
  rcases ho.2 with ⟨rfl, h0⟩ | ⟨g, cap, _, rfl, _⟩
  · exact ⟨none, 0, by rw [textOf_size, h0], .inl ⟨rfl, by rw [textOf_size]; exact h0, rfl⟩⟩
  · refine ⟨some ⟨g, 0, none⟩, cap, by rw [textOf_size], .inr ⟨_, rfl, fun j u hu => ?_⟩⟩
    rw [textOf_list] at hu
    have hadd : (⟨g, 0, none⟩ : Addr).add j = ⟨g, j, none⟩ := by unfold Addr.add; split <;> simp_all
    have hj : j < L.length := by
      have := (List.getElem?_eq_some_iff.1 hu).1
      simpa [Lib.byteCells] using this
    rw [hadd, h.cellAt j (by omega)]
    exact hu

/-- A reader of T that stands at p. -/
structure RdAt (r p : Nat) (tv : Value) (T : ByteArray) (w : World) : Prop where
  now : ∃ ev sc, w.heap[r]? = some (.cells (rcells tv p ev sc) 55 (0, 0))
  text : TextIs w tv T

theorem RdAt.cell {r p : Nat} {tv : Value} {T : ByteArray} {w : World} (h : RdAt r p tv T w) : w.cell? ⟨r, 1, none⟩ = some (.int .i64 (p : Int)) := by
  obtain ⟨ev, sc, hr⟩ := h.now
  rw [cell_of_row _ _ _ _ _ _ hr]; rfl

/-- ZZliteral of a word that stands there. -/
theorem rd_yes (r p : Nat) (tv : Value) (T s : ByteArray) (w : World) (h : RdAt r p tv T w) (hp : p ≤ T.size) (hn : T.size ≤ 1000000) (hs : s.size ≤ 100000) (hh : hitB T p s = true) :
    Calls Try.prog 20 #[.pointer (some ⟨r, 0, none⟩), .string s] w fun e w' => e = .returned (.bool true) ∧ RdAt r (p + s.size) tv T w' ∧ Below r w w' := by
  obtain ⟨ev, sc, hr⟩ := h.now
  refine (lit20 r p tv ev sc T s w hr h.text hp hn hs).mono ?_
  rw [hh]
  rintro e w' ⟨rfl, hl⟩
  exact ⟨rfl, ⟨⟨ev, sc, hl.yes hh⟩, hl.text hr h.text⟩, hl.below⟩

/-- ZZliteral of a word that does not. -/
theorem rd_no (r p : Nat) (tv : Value) (T s : ByteArray) (w : World) (h : RdAt r p tv T w) (hp : p ≤ T.size) (hn : T.size ≤ 1000000) (hs : s.size ≤ 100000) (hh : hitB T p s = false) :
    Calls Try.prog 20 #[.pointer (some ⟨r, 0, none⟩), .string s] w fun e w' => ∃ b, e = .returned (.bool false) ∧ RdAt r p tv T w' ∧ Below r w w' ∧ w'.cell? ⟨r, 2, none⟩ = some (.iface 42 (.pointer (some ⟨b, 0, none⟩))) ∧ w'.cell? ⟨b, 0, none⟩ = some (.int .i64 (p : Int)) := by
  obtain ⟨ev, sc, hr⟩ := h.now
  refine (lit20 r p tv ev sc T s w hr h.text hp hn hs).mono ?_
  rw [hh]
  rintro e w' ⟨rfl, hl⟩
  obtain ⟨b, m, _, h1, h2⟩ := hl.no hh
  exact ⟨b, rfl, ⟨⟨_, sc, h1⟩, hl.text hr h.text⟩, hl.below, by rw [cell_of_row _ _ _ _ _ _ h1]; rfl, by rw [cell_of_row _ _ _ _ _ _ h2]; rfl⟩

end Go.Proofs.Qxb6613739a
