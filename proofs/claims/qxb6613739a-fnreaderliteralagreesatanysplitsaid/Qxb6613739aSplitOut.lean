import Derived.Test.Qxb6613739aSplit
namespace Go.Proofs.Qxb6613739a
open Go.RowKit
set_option linter.unusedVariables false
set_option linter.unusedSimpArgs false

theorem split_out (a0 : Option Addr) (n cap : Nat) (s : ByteArray) (k : Int) (w : World) (hn : n ≤ maxLen) (hs : s.size ≤ maxLen) (h : ¬ (n ≤ 65536 ∧ s.size ≤ 65536 ∧ 0 ≤ k ∧ k ≤ (s.size : Int))) :
    Calls Try.prog 5 #[.slice a0 n cap, .string s, .int .i64 k] w fun e w' => e = .returned (.bool true) ∧ Below w.heap.size w w' := by
  by_cases h1 : n + s.size ≤ 1048576
  · by_cases h2 : 65536 < n
    · have h2' : (65536 : Int) < (n : Int) := by omega
      go_enter Try.func5, Try.ntmps5
      go_wp2_with fail
      refine (bytes17 a0 n cap s k w hn hs).mono ?_
      rw [decide_eq_true h1]
      rintro e w0 ⟨rfl, rfl⟩
      go_wp2
      go_ret
      exact ⟨rfl, Below.refl _ _⟩
    have h2' : (n : Int) ≤ 65536 := by omega
    by_cases h3 : 65536 < s.size
    · have h3' : (65536 : Int) < (s.size : Int) := by omega
      go_enter Try.func5, Try.ntmps5
      go_wp2_with fail
      refine (bytes17 a0 n cap s k w hn hs).mono ?_
      rw [decide_eq_true h1]
      rintro e w0 ⟨rfl, rfl⟩
      go_wp2
      go_ret
      exact ⟨rfl, Below.refl _ _⟩
    have h3' : (s.size : Int) ≤ 65536 := by omega
    by_cases h4 : k < 0
    · go_enter Try.func5, Try.ntmps5
      go_wp2_with fail
      refine (bytes17 a0 n cap s k w hn hs).mono ?_
      rw [decide_eq_true h1]
      rintro e w0 ⟨rfl, rfl⟩
      go_wp2
      go_ret
      exact ⟨rfl, Below.refl _ _⟩
    have h5 : (s.size : Int) < k := by omega
    go_enter Try.func5, Try.ntmps5
    go_wp2_with fail
    refine (bytes17 a0 n cap s k w hn hs).mono ?_
    rw [decide_eq_true h1]
    rintro e w0 ⟨rfl, rfl⟩
    go_wp2
    go_ret
    exact ⟨rfl, Below.refl _ _⟩
  · go_enter Try.func5, Try.ntmps5
    go_wp2_with fail
    refine (bytes17 a0 n cap s k w hn hs).mono ?_
    rw [decide_eq_false h1]
    rintro e w0 ⟨rfl, rfl⟩
    go_wp2
    go_ret
    exact ⟨rfl, Below.refl _ _⟩

/-- The bytes that small numbers are. -/
def bytesOf (zs : List Int) : ByteArray := ⟨(zs.map fun z => UInt8.ofNat z.toNat).toArray⟩

theorem bytesOf_size (zs : List Int) : (bytesOf zs).size = zs.length := by
  show ((zs.map fun z => UInt8.ofNat z.toNat).toArray).size = _
  simp

theorem bytesOf_cells (zs : List Int) (h : ∀ z ∈ zs, (Lit.int .u8 z).wf = true) : Lib.byteCells (bytesOf zs).data.toList = zs.map (Value.int .u8) := by
  unfold bytesOf Lib.byteCells
  simp only [List.map_map]
  apply List.map_congr_left
  intro z hz
  have := h z hz
  simp only [Lit.wf, Bool.and_eq_true, decide_eq_true_eq] at this
  have hlo : (0 : Int) ≤ z := this.1
  have hhi : z ≤ 255 := this.2
  simp only [Function.comp_apply, UInt8.toNat_ofNat']
  congr 1
  omega

end Go.Proofs.Qxb6613739a
