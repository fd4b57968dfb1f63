import Derived.Test.Qxb6613739aText
import Derived.Deep.AppendLies
import Derived.Lib.AppendStr
namespace Go.Proofs.Qxb6613739a
open Go.RowKit
set_option linter.unusedVariables false
set_option linter.unusedSimpArgs false

/-- The word of a bool. -/
def word : Bool → ByteArray
  | true => ⟨#[116, 114, 117, 101]⟩
  | false => ⟨#[102, 97, 108, 115, 101]⟩

theorem word_size (b : Bool) : (word b).size = if b then 4 else 5 := by cases b <;> rfl
theorem word_pos (b : Bool) : 4 ≤ (word b).size ∧ (word b).size ≤ 5 := by cases b <;> decide

/-- A writer whose text is L. -/
structure Wr (B wb : Nat) (L : List UInt8) (more : Bool) (w : World) : Prop where
  low : B ≤ wb
  now : ∃ bv, w.heap[wb]? = some (.cells #[bv, .bool more, .nilIface] 50 (0, 0)) ∧ w.ownsRow B 5 1 bv L.length (Lib.byteCells L)

theorem own_shape {w : World} {base e size n : Nat} {v : Value} {xs : List Value} (h : w.ownsRow base e size v n xs) : ∃ a cap, v = .slice a n cap := by
  rcases h.2 with ⟨rfl, rfl⟩ | ⟨g, cap, _, rfl, _⟩
  · exact ⟨none, 0, rfl⟩
  · exact ⟨_, cap, rfl⟩

theorem own_ne {w : World} {B wb n : Nat} {bv : Value} {cs : Array Value} {xs : List Value} (hr : w.heap[wb]? = some (.cells cs 50 (0, 0))) (ho : w.ownsRow B 5 1 bv n xs) : bv.ownBlock ≠ some wb := by
  rcases ho.2 with ⟨rfl, _⟩ | ⟨g, cap, cur, rfl, _, hg, _⟩
  · simp [Value.ownBlock]
  · simp only [Value.ownBlock, ne_eq, Option.some.injEq]
    rintro rfl
    rw [hr] at hg
    simp at hg

/-- boolWordB1. -/
theorem word10 (b : Bool) (w : World) : Calls Try.prog 10 #[.bool b] w fun e w' => e = .returned (.string (word b)) ∧ w' = w := by
  cases b
  · go_enter Try.func10, Try.ntmps10
    go_wp2
    go_ret
    exact ⟨rfl, rfl⟩
  · go_enter Try.func10, Try.ntmps10
    go_wp2
    go_ret
    exact ⟨rfl, rfl⟩

/-- What an append leaves. -/
structure App (B n : Nat) (xs : List Value) (v v' : Value) (w w' : World) : Prop where
  own : w'.ownsRow B 5 1 v' n xs
  grown : w.grownBy w' v.ownBlock

set_option maxHeartbeats 800000 in
theorem app29 (B n : Nat) (v : Value) (xs : List Value) (b : Bool) (w : World) (hown : w.ownsRow B 5 1 v n xs) (hn : n ≤ 10000000) (hB : B ≤ w.heap.size) :
    Calls Try.prog 29 #[v, .bool b] w fun e w' => ∃ v', e = .returned v' ∧ App B (n + (word b).size) (xs ++ Lib.byteCells (word b).data.toList) v v' w w' := by
  obtain ⟨i0, hi, hz0, hz1, hz2⟩ := info_parts Try.info5
  cases b
  · have hw : (word false).size = 5 := rfl
    go_enter Try.func29, Try.ntmps29
    go_wp2_with (at_builtin; go_must (refine Lib.wpList_append_own_string _ rfl _ _ 27 9 rfl B 5 i0 Try.underlying27 Try.underlying9 hi hz0 hz1 hz2 v n xs rfl hown (word false) rfl (by unfold maxLen; omega) (by omega) hB ?_; intro v' w' hown' hgrow _))
    go_ret
    exact ⟨v', rfl, hown', hgrow⟩
  · have hw : (word true).size = 4 := rfl
    go_enter Try.func29, Try.ntmps29
    go_wp2_with (at_builtin; go_must (refine Lib.wpList_append_own_string _ rfl _ _ 27 9 rfl B 5 i0 Try.underlying27 Try.underlying9 hi hz0 hz1 hz2 v n xs rfl hown (word true) rfl (by unfold maxLen; omega) (by omega) hB ?_; intro v' w' hown' hgrow _))
    go_ret
    exact ⟨v', rfl, hown', hgrow⟩

theorem app27 (B n : Nat) (v : Value) (xs : List Value) (b : Bool) (w : World) (hown : w.ownsRow B 5 1 v n xs) (hn : n ≤ 10000000) (hB : B ≤ w.heap.size) :
    Calls Try.prog 27 #[v, .bool b] w fun e w' => ∃ v', e = .returned v' ∧ App B (n + (word b).size) (xs ++ Lib.byteCells (word b).data.toList) v v' w w' := by
  have H := app29 B n v xs b w hown hn hB
  have HH : Hid (Calls Try.prog 29 #[v, .bool b] w fun e w' => ∃ v', e = .returned v' ∧ App B (n + (word b).size) (xs ++ Lib.byteCells (word b).data.toList) v v' w w') := H
  clear H
  go_enter Try.func27, Try.ntmps27
  go_wp2_with fail
  refine HH.out.mono ?_
  rintro e w' ⟨v', rfl, h⟩
  go_wp2
  go_ret
  exact ⟨v', rfl, h⟩

end Go.Proofs.Qxb6613739a
