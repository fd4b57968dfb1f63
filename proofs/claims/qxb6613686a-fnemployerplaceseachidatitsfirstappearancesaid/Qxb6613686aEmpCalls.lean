import Derived.Test.Qxb6613686aBase
import Derived.Test.Qxb6613686aEmpPlain
import Derived.Test.Qxb6613686aShelf
namespace Go.Proofs.Qxb6613686a
open Go.RowKit
set_option linter.unusedVariables false
set_option linter.unusedSimpArgs false

/-- stringslite.Clone: the same bytes; of what was there nothing has turned. -/
theorem clone28 (s : ByteArray) (w : World) (hlim : s.size ≤ 1048576) :
    Calls Try.prog 28 #[.string s] w fun e w' => e = .returned (.string s) ∧ Below w.heap.size w w' :=
  Try.stringslite_Clone s w (by omega)

theorem clone27 (s : ByteArray) (w : World) (hlim : s.size ≤ 1048576) :
    Calls Try.prog 27 #[.string s] w fun e w' => e = .returned (.string s) ∧ Below w.heap.size w w' := by
  go_enter Try.func27, Try.ntmps27
  go_wp2_with fail
  refine (clone28 s w hlim).mono ?_
  rintro e w' ⟨rfl, hb⟩
  go_wp2
  go_ret
  exact ⟨rfl, hb⟩

/-- What zzFind answers. -/
def findI (es : List ByteArray) (s : ByteArray) : Int := if fnd es s < es.length then (fnd es s : Int) else -1

theorem findI_hit {es : List ByteArray} {s : ByteArray} {k : Nat} (h : fnd es s = k) (hk : k < es.length) : findI es s = (k : Int) := by
  unfold findI; rw [if_pos (by omega), h]
theorem findI_miss {es : List ByteArray} {s : ByteArray} (h : fnd es s = es.length) : findI es s = -1 := by
  unfold findI; rw [if_neg (by omega)]

/-- zzFind. -/
theorem find_any (es : List ByteArray) (s : ByteArray) (b cap : Nat) (w : World) (hl : es.length ≤ 100000) (hc : ∀ i, i < es.length → w.cell? ⟨b, i, none⟩ = some (.string (es.getD i ByteArray.empty))) :
    Calls Try.prog 17 #[.slice (some ⟨b, 0, none⟩) es.length cap, .string s] w fun e w' => e = .returned (.int .i64 (findI es s)) ∧ w' = w := by
  have HC : Hid (∀ i, i < es.length → w.cell? ⟨b, i, none⟩ = some (.string (es.getD i ByteArray.empty))) := hc
  clear hc
  go_enter Try.func17, Try.ntmps17
  go_wp2
  go_loop [5] (fun i => ∃ k : Nat, k ≤ es.length ∧ i = .int .i64 k ∧ Hid (∀ j, j < k → es.getD j ByteArray.empty ≠ s)) (fun i => es.length - (intOf i).toNat)
  case atStart => exact ⟨0, Nat.zero_le _, rfl, fun j hj => by omega⟩
  case round =>
    obtain ⟨k, hk, rfl, hn⟩ := hrel
    by_cases hlt : k < es.length
    · obtain ⟨x, hx⟩ : ∃ x, x = es.getD k ByteArray.empty := ⟨_, rfl⟩
      have hcx : w.cell? ⟨b, k, none⟩ = some (.string x) := by rw [hx]; exact HC.out k hlt
      have HX : Hid (x = es.getD k ByteArray.empty) := hx
      clear hx
      have hi : (k : Int) < (es.length : Int) := by omega
      by_cases he : x = s
      · have hb : (x.toList == s.toList) = true := by rw [he]; exact beq_same s
        have HE : Hid (x = s) := he
        clear he
        go_wp2
        go_ret
        have hf : fnd es s = k := fnd_at hlt (by rw [← HX.out]; exact HE.out) hn.out
        exact ⟨by rw [findI_hit hf hlt]; rfl, rfl⟩
      · have hb := beq_other he
        have HE : Hid (x ≠ s) := he
        clear he
        go_wp2
        go_round
        case rel =>
          refine ⟨k + 1, by omega, by go_num, fun j hj => ?_⟩
          rcases Nat.lt_or_ge j k with h | h
          · exact hn.out j h
          · have : j = k := by omega
            subst this
            rw [← HX.out]; exact HE.out
        case measure => simp [intOf]; omega
    · have e : k = es.length := by omega
      have hf : fnd es s = es.length := fnd_of_not (not_mem_of_all (by rw [← e]; exact hn.out))
      have HF : Hid (fnd es s = es.length) := hf
      clear hf
      go_wp2
      go_ret
      exact ⟨by rw [findI_miss HF.out]; rfl, rfl⟩

/-- An answer, yes or no; yes only where the first n are short. -/
def SaysShort (S : Nat → ByteArray) (n : Nat) (e : Ending) : Prop := ∃ v, e = .returned (.bool v) ∧ (v = true → ∀ i, i < n → (S i).size ≤ 1048576)

/-- zzBytes_FnEmployer..: where it says yes the lengths are small. -/
theorem bytes16 (S : Nat → ByteArray) (b off n cap m : Nat) (cap2 : Nat) (a2 : Option Addr) (w : World) (hn : n ≤ maxLen) (hm : m ≤ maxLen) (hS : ∀ i, i < n → (S i).size ≤ maxLen) (hc : ∀ i, i < n → w.cell? ⟨b, off + i, none⟩ = some (.string (S i))) :
    Calls Try.prog 16 #[.slice (some ⟨b, off, none⟩) n cap, .slice a2 m cap2] w fun e w' => SaysShort S n e ∧ w' = w := by
  unfold maxLen at hn hm
  have HC : Hid (∀ i, i < n → w.cell? ⟨b, off + i, none⟩ = some (.string (S i))) := hc
  have HS : Hid (∀ i, i < n → (S i).size ≤ maxLen) := hS
  clear hc hS
  by_cases hn1 : n ≤ 1048576
  · have hn1' : (n : Int) ≤ 1048576 := by omega
    go_enter Try.func16, Try.ntmps16
    go_wp2
    go_loop [5, 6] (fun t i => ∃ k : Nat, k ≤ n ∧ i = .int .i64 k ∧ (∃ z : Int, 0 ≤ z ∧ z ≤ 1048576 ∧ t = .int .i64 z) ∧ Hid (∀ j, j < k → (S j).size ≤ 1048576)) (fun _ i => n - (intOf i).toNat)
    case atStart => exact ⟨0, Nat.zero_le _, rfl, ⟨n, by omega, by omega, rfl⟩, fun j hj => by omega⟩
    case round =>
      obtain ⟨k, hk, rfl, ⟨z, hz0, hz1, rfl⟩, HB⟩ := hrel
      by_cases hlt : k < n
      · have hcx := HC.out k hlt
        have hs := HS.out k hlt
        unfold maxLen at hs
        have hi : (k : Int) < (n : Int) := by omega
        by_cases h1 : (S k).size ≤ 1048576
        · have h1' : ((S k).size : Int) ≤ 1048576 := by omega
          by_cases h2 : z + ((S k).size : Int) ≤ 1048576
          · go_wp2
            go_round
            case rel =>
              refine ⟨k + 1, by omega, by go_num, ⟨z + ((S k).size : Int), by omega, by omega, rfl⟩, fun j hj => ?_⟩
              rcases Nat.lt_or_ge j k with h | h
              · exact HB.out j h
              · have : j = k := by omega
                subst this
                exact h1
            case measure => simp [intOf]; omega
          · go_wp2
            go_ret
            exact ⟨⟨false, rfl, by simp⟩, rfl⟩
        · go_wp2
          go_ret
          exact ⟨⟨false, rfl, by simp⟩, rfl⟩
      · have e : k = n := by omega
        by_cases h1 : (m : Int) ≤ 1048576
        · by_cases h2 : z + (m : Int) ≤ 1048576
          · go_wp2
            go_ret
            exact ⟨⟨true, rfl, fun _ i hi => HB.out i (by omega)⟩, rfl⟩
          · go_wp2
            go_ret
            exact ⟨⟨false, rfl, by simp⟩, rfl⟩
        · go_wp2
          go_ret
          exact ⟨⟨false, rfl, by simp⟩, rfl⟩
  · have hn1' : (1048576 : Int) < (n : Int) := by omega
    go_enter Try.func16, Try.ntmps16
    go_wp2
    go_ret
    exact ⟨⟨false, rfl, by simp⟩, rfl⟩

/-- The same where there is no id. -/
theorem bytes16_none (a1 : Option Addr) (cap m : Nat) (cap2 : Nat) (a2 : Option Addr) (w : World) (hm : m ≤ maxLen) :
    Calls Try.prog 16 #[.slice a1 0 cap, .slice a2 m cap2] w fun e w' => SaysShort (fun _ => ByteArray.empty) 0 e ∧ w' = w := by
  unfold maxLen at hm
  by_cases h1 : (m : Int) ≤ 1048576
  · go_enter Try.func16, Try.ntmps16
    go_wp2
    refine wp_loop_rounds 1 ?_
    rw [rounds_succ]
    go_wp2
    go_ret
    exact ⟨⟨_, rfl, fun _ i hi => by omega⟩, rfl⟩
  · go_enter Try.func16, Try.ntmps16
    go_wp2
    refine wp_loop_rounds 1 ?_
    rw [rounds_succ]
    go_wp2
    go_ret
    exact ⟨⟨_, rfl, fun _ i hi => by omega⟩, rfl⟩

end Go.Proofs.Qxb6613686a
