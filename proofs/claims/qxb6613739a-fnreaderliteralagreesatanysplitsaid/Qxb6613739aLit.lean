import Derived.Test.Qxb6613739aText
namespace Go.Proofs.Qxb6613739a
open Go.RowKit
set_option linter.unusedVariables false
set_option linter.unusedSimpArgs false

/-- Does s stand in T at p? -/
def hitB (T : ByteArray) (p : Nat) (s : ByteArray) : Bool := decide (p + s.size ≤ T.size ∧ T.extract p (p + s.size) = s)

structure Lit (rb p : Nat) (tv ev sc : Value) (T s : ByteArray) (w w' : World) : Prop where
  below : Below rb w w'
  keep : ∀ k, k < w.heap.size → k ≠ rb → w'.heap[k]? = w.heap[k]?
  yes : hitB T p s = true → w'.heap[rb]? = some (.cells (rcells tv (p + s.size) ev sc) 55 (0, 0))
  no : hitB T p s = false → ∃ b m, w.heap.size ≤ b ∧ w'.heap[rb]? = some (.cells (rcells tv p (.iface 42 (.pointer (some ⟨b, 0, none⟩))) sc) 55 (0, 0)) ∧ w'.heap[b]? = some (.cells #[.int .i64 (p : Int), .string m] 45 (0, 0))

theorem below_drewN' (B : Nat) (w : World) (n : Nat) : Below B w (w.drewN n) := ⟨rfl, rfl, rfl, Nat.le_refl _, fun _ _ => rfl⟩

theorem lit_yes {rb p : Nat} {tv ev sc : Value} {T s : ByteArray} {w w' : World} (hr : w.heap[rb]? = some (.cells (rcells tv p ev sc) 55 (0, 0))) (hh : hitB T p s = true) (h : Passed rb (p + s.size) w w') : Lit rb p tv ev sc T s w w' := by
  obtain ⟨nq, rfl⟩ := h
  refine ⟨(below_drewN' rb w nq).setCell (p := ⟨rb, 1, none⟩) (Nat.le_refl _) _, fun k hk hne => ?_, fun _ => ?_, fun hf => by rw [hh] at hf; cases hf⟩
  · rw [heap_setCell_other _ _ _ _ hne]; rfl
  · rw [heap_setCell_same (w.drewN nq) _ _ (rcells tv p ev sc) 55 _ hr]
    simp [rcells]

theorem lit_no {rb p : Nat} {tv ev sc : Value} {T s : ByteArray} {w w' : World} (hr : w.heap[rb]? = some (.cells (rcells tv p ev sc) 55 (0, 0))) (hh : hitB T p s = false) (h : Refused rb p w w') : Lit rb p tv ev sc T s w w' := by
  obtain ⟨m, nq, rfl⟩ := h
  have hlt : rb < w.heap.size := (Array.getElem?_eq_some_iff.1 hr).1
  have hsz : ((w.drewN nq).setCell ⟨rb, 2, none⟩ (.iface 42 (.pointer (some ⟨w.heap.size, 0, none⟩)))).heap.size = w.heap.size := by simp
  refine ⟨((below_drewN' rb w nq).setCell (p := ⟨rb, 2, none⟩) (Nat.le_refl _) _).alloc (by omega) _, fun k hk hne => ?_, fun hf => (by rw [hh] at hf; cases hf), fun _ => ⟨w.heap.size, m, Nat.le_refl _, ?_, ?_⟩⟩
  · rw [Below.heap_alloc _ _ _ (by omega), heap_setCell_other _ _ _ _ hne]; rfl
  · rw [Below.heap_alloc _ _ _ (by omega), heap_setCell_same (w.drewN nq) _ _ (rcells tv p ev sc) 55 _ hr]
    simp [rcells]
  · have := heap_alloc_new ((w.drewN nq).setCell ⟨rb, 2, none⟩ (.iface 42 (.pointer (some ⟨w.heap.size, 0, none⟩)))) (.cells #[.int .i64 (p : Int), .string m] 45)
    rw [hsz] at this
    exact this

theorem beq_of_eq {a b : ByteArray} (h : a = b) : (a.toList == b.toList) = true := by subst h; simp
theorem beq_of_ne {a b : ByteArray} (h : a ≠ b) : (a.toList == b.toList) = false := by
  simp only [beq_eq_false_iff_ne, ne_eq]
  intro e
  rw [Lib.toList_data, Lib.toList_data] at e
  apply h
  cases a; cases b
  simp at e
  simp [e]

theorem empty_eq {s : ByteArray} (h : s.size = 0) : s = ByteArray.empty := ByteArray.ext (Array.eq_empty_of_size_eq_zero h)

theorem extract_none (T : ByteArray) (p : Nat) : T.extract p p = ByteArray.empty := by
  apply empty_eq
  simp

theorem lit28 (rb p : Nat) (tv ev sc : Value) (T s : ByteArray) (w : World) (hr : w.heap[rb]? = some (.cells (rcells tv p ev sc) 55 (0, 0))) (ht : TextIs w tv T) (hp : p ≤ T.size) (hn : T.size ≤ 1000000) (hs : s.size ≤ 100000) :
    Calls Try.prog 28 #[.pointer (some ⟨rb, 0, none⟩), .string s] w fun e w' => e = .returned (.bool (hitB T p s)) ∧ Lit rb p tv ev sc T s w w' := by
  have hlt : rb < w.heap.size := (Array.getElem?_eq_some_iff.1 hr).1
  have c0 : w.cell? ⟨rb, 0, none⟩ = some tv := by rw [cell_of_row _ _ _ _ _ _ hr]; rfl
  have c1 : w.cell? ⟨rb, 1, none⟩ = some (.int .i64 (p : Int)) := by rw [cell_of_row _ _ _ _ _ _ hr]; rfl
  have c2 : w.cell? ⟨rb, 2, none⟩ = some ev := by rw [cell_of_row _ _ _ _ _ _ hr]; rfl
  have f1 : w.frozen? ⟨rb, 1, none⟩ = false := frozen_of_row _ _ _ _ _ hr
  have f2 : w.frozen? ⟨rb, 2, none⟩ = false := frozen_of_row _ _ _ _ _ hr
  by_cases hle : p + s.size ≤ T.size
  · rcases ht with ⟨rfl, h0⟩ | ⟨g, rfl, hg⟩
    · have hp0 : p = 0 := by omega
      have hs0 : s.size = 0 := by omega
      subst hp0
      have hh : hitB T 0 s = true := by
        unfold hitB
        rw [decide_eq_true]
        refine ⟨hle, ?_⟩
        rw [hs0, empty_eq hs0]
        exact extract_none T 0
      rw [hh]
      refine (lit_nil rb s w hs0 hlt c0 c1 f1).mono ?_
      rintro e w' ⟨rfl, h⟩
      exact ⟨rfl, lit_yes hr hh (by rw [hs0]; exact h)⟩
    · by_cases hpn : p = T.size
      · have hs0 : s.size = 0 := by omega
        subst hpn
        have hh : hitB T T.size s = true := by
          unfold hitB
          rw [decide_eq_true]
          refine ⟨hle, ?_⟩
          rw [hs0, empty_eq hs0]
          exact extract_none T _
        rw [hh]
        refine (lit_end rb g T.size T s w hs0 (bytes_of_block hg) rfl hn hlt c0 c1 f1).mono ?_
        rintro e w' ⟨rfl, h⟩
        exact ⟨rfl, lit_yes hr hh (by rw [hs0]; exact h)⟩
      · by_cases he : T.extract p (p + s.size) = s
        · have hh : hitB T p s = true := by unfold hitB; exact decide_eq_true ⟨hle, he⟩
          rw [hh]
          refine (lit_long rb g p T s ev w hs hn (by omega) hle hlt c0 c1 f1 c2 f2 (bytes_of_block hg) (beq_of_eq he)).mono ?_
          rintro e w' ⟨rfl, h⟩
          exact ⟨rfl, lit_yes hr hh h⟩
        · have hh : hitB T p s = false := by unfold hitB; exact decide_eq_false (fun h => he h.2)
          rw [hh]
          refine (lit_other rb g p T s ev w hs hn (by omega) hle hlt c0 c1 f1 c2 f2 (bytes_of_block hg) (beq_of_ne he)).mono ?_
          rintro e w' ⟨rfl, h⟩
          exact ⟨rfl, lit_no hr hh h⟩
  · have hh : hitB T p s = false := by unfold hitB; exact decide_eq_false (fun h => hle h.1)
    rw [hh]
    obtain ⟨a, cap, rfl⟩ : ∃ a cap, tv = .slice a T.size cap := by
      rcases ht with ⟨rfl, h0⟩ | ⟨g, rfl, hg⟩
      · exact ⟨none, 0, by rw [h0]⟩
      · exact ⟨_, _, rfl⟩
    refine (lit_short rb T.size p cap a s ev w hs hn hp (by omega) hlt c0 c1 c2 f2).mono ?_
    rintro e w' ⟨rfl, h⟩
    exact ⟨rfl, lit_no hr hh h⟩

theorem lit20 (rb p : Nat) (tv ev sc : Value) (T s : ByteArray) (w : World) (hr : w.heap[rb]? = some (.cells (rcells tv p ev sc) 55 (0, 0))) (ht : TextIs w tv T) (hp : p ≤ T.size) (hn : T.size ≤ 1000000) (hs : s.size ≤ 100000) :
    Calls Try.prog 20 #[.pointer (some ⟨rb, 0, none⟩), .string s] w fun e w' => e = .returned (.bool (hitB T p s)) ∧ Lit rb p tv ev sc T s w w' := by
  have H := lit28 rb p tv ev sc T s w hr ht hp hn hs
  have HH : Hid (Calls Try.prog 28 #[.pointer (some ⟨rb, 0, none⟩), .string s] w fun e w' => e = .returned (.bool (hitB T p s)) ∧ Lit rb p tv ev sc T s w w') := H
  clear H hr ht
  go_enter Try.func20, Try.ntmps20
  go_wp2_with fail
  refine HH.out.mono ?_
  rintro e w' ⟨rfl, h⟩
  go_wp2
  go_ret
  exact ⟨rfl, h⟩

/-- ZZreaderAt, ZZreaderErrNil, ZZreaderSyntax. -/
theorem at22 (rb : Nat) (p : Int) (w : World) (c1 : w.cell? ⟨rb, 1, none⟩ = some (.int .i64 p)) :
    Calls Try.prog 22 #[.pointer (some ⟨rb, 0, none⟩)] w fun e w' => e = .returned (.int .i64 p) ∧ w' = w := by
  go_enter Try.func22, Try.ntmps22
  go_wp2
  go_ret
  exact ⟨rfl, rfl⟩
theorem err23 (rb : Nat) (w : World) (c2 : w.cell? ⟨rb, 2, none⟩ = some .nilIface) :
    Calls Try.prog 23 #[.pointer (some ⟨rb, 0, none⟩)] w fun e w' => e = .returned (.bool true) ∧ w' = w := by
  go_enter Try.func23, Try.ntmps23
  go_wp2
  go_ret
  exact ⟨rfl, rfl⟩
theorem syn24 (rb b : Nat) (w : World) (c2 : w.cell? ⟨rb, 2, none⟩ = some (.iface 42 (.pointer (some ⟨b, 0, none⟩)))) :
    Calls Try.prog 24 #[.pointer (some ⟨rb, 0, none⟩)] w fun e w' => e = .returned (.pointer (some ⟨b, 0, none⟩)) ∧ w' = w := by
  have hta : (Instr.typeAssert (.iface 42 (.pointer (some ⟨b, 0, none⟩))) 48 42 true).run Try.prog w = .ok (.tuple #[.pointer (some ⟨b, 0, none⟩), .bool true]) w := by kernel_rfl
  go_enter Try.func24, Try.ntmps24
  go_wp2
  go_ret
  exact ⟨rfl, rfl⟩

theorem hit_iff {T s : ByteArray} (h : s.size ≤ T.size) : (∀ j (hj : j < s.size), T[j]'(by omega) = s[j]) ↔ T.extract 0 s.size = s := by
  constructor
  · intro hall
    apply ByteArray.ext
    apply Array.toList_inj.1
    rw [Lib.extract_data]
    apply List.ext_getElem?
    intro j
    simp only [Nat.sub_zero, List.drop_zero, List.getElem?_take, Array.getElem?_toList]
    by_cases hj : j < s.size
    · have h1 : j < T.data.size := by have : T.data.size = T.size := rfl; omega
      have h2 : j < s.data.size := hj
      rw [if_pos hj, Array.getElem?_eq_getElem h1, Array.getElem?_eq_getElem h2]
      exact congrArg some (hall j hj)
    · have h2 : s.data.size ≤ j := by have : s.data.size = s.size := rfl; omega
      rw [if_neg hj, Array.getElem?_eq_none h2]
  · intro he j hj
    have h1 : j < T.data.size := by have : T.data.size = T.size := rfl; omega
    have h2 : j < s.data.size := hj
    have := congrArg (fun x : ByteArray => x.data.toList[j]?) he
    simp only [Lib.extract_data, Nat.sub_zero, List.drop_zero, List.getElem?_take, Array.getElem?_toList] at this
    rw [if_pos hj, Array.getElem?_eq_getElem h1, Array.getElem?_eq_getElem h2] at this
    exact Option.some.inj this

set_option maxHeartbeats 1600000 in
/-- Function 21: does the text open with the word? -/
theorem opens21 (tv : Value) (T s : ByteArray) (w : World) (ht : TextIs w tv T) (hn : T.size ≤ 1000000) (hs : s.size ≤ 100000) :
    Calls Try.prog 21 #[tv, .string s] w fun e w' => e = .returned (.bool (hitB T 0 s)) ∧ ∃ nq, w' = w.drewN nq := by
  by_cases hle : s.size ≤ T.size
  · have hle' : (s.size : Int) ≤ (T.size : Int) := by omega
    by_cases h0 : s.size = 0
    · have hh : hitB T 0 s = true := by
        unfold hitB
        exact decide_eq_true ⟨by omega, (by rw [Nat.zero_add]; exact (hit_iff hle).1 (fun j hj => by omega))⟩
      rw [hh]
      have h0' : (s.size : Int) = 0 := by omega
      obtain ⟨a, cap, rfl⟩ : ∃ a cap, tv = .slice a T.size cap := by
        rcases ht with ⟨rfl, h0⟩ | ⟨g, rfl, hg⟩
        · exact ⟨none, 0, by rw [h0]⟩
        · exact ⟨_, _, rfl⟩
      go_enter Try.func21, Try.ntmps21
      go_wp2
      refine wp_loop_rounds 1 ?_
      rw [rounds_succ]
      go_wp2
      go_ret
      exact ⟨rfl, 0, rfl⟩
    rcases ht with ⟨_, h⟩ | ⟨g, rfl, hg⟩
    · omega
    have HT : Hid (Lib.Bytes w g 0 T) := bytes_of_block hg
    clear hg
    obtain ⟨v, hv⟩ : ∃ v, v = hitB T 0 s := ⟨_, rfl⟩
    rw [← hv]
    have HV : Hid (v = hitB T 0 s) := hv
    clear hv
    go_enter Try.func21, Try.ntmps21
    go_wp2
    go_loopw [5] (fun i wr => ∃ k : Nat, k ≤ s.size ∧ i = .int .i64 k ∧ (∃ nq, wr = w.drewN nq) ∧ Hid (∀ j (hj : j < s.size), j < k → T[j]'(by omega) = s[j])) (fun i _ => s.size - (intOf i).toNat)
    case atStart => exact ⟨0, Nat.zero_le _, rfl, ⟨0, rfl⟩, fun j _ hj => by omega⟩
    case round =>
      obtain ⟨k, hk, rfl, ⟨n0, rfl⟩, HA⟩ := hrel
      by_cases hlt : k < s.size
      · have hc := HT.out k (by omega)
        rw [Nat.zero_add] at hc
        have hi0 : (0 : Int) ≤ (k : Int) := by omega
        have hi1 : (k : Int) < (T.size : Int) := by omega
        have hi2 : (k : Int) < (s.size : Int) := by omega
        by_cases he : T[k] = s[k]
        · have hb : ((T[k].toNat : Int) != (s[k].toNat : Int)) = false := by rw [he]; simp
          have HE : Hid (T[k] = s[k]) := he
          clear he
          go_wp2
          go_quiet (fail)
          go_wp2
          go_roundw
          case rel =>
            refine ⟨k + 1, by omega, by go_num, ⟨_, rfl⟩, fun j hj hj' => ?_⟩
            rcases Nat.lt_or_ge j k with h | h
            · exact HA.out j hj h
            · have : j = k := by omega
              subst this
              exact HE.out
          case measure => simp [intOf]; omega
        · have hb : ((T[k].toNat : Int) != (s[k].toNat : Int)) = true := by
            simp only [bne_iff_ne, ne_eq]
            intro e
            exact he (UInt8.toNat_inj.1 (by omega))
          have HE : Hid (T[k] ≠ s[k]) := he
          clear he
          go_wp2
          go_quiet (fail)
          go_wp2
          go_ret
          have hv : v = false := by
            rw [HV.out]
            unfold hitB
            refine decide_eq_false fun h => HE.out ?_
            exact (hit_iff hle).2 (by simpa using h.2) k hlt
          exact ⟨by rw [hv]; rfl, n0 + nq, by rw [World.drewN_drewN]⟩
      · go_wp2
        go_ret
        have hv : v = true := by
          rw [HV.out]
          unfold hitB
          refine decide_eq_true ⟨by omega, ?_⟩
          rw [Nat.zero_add]
          exact (hit_iff hle).1 (fun j hj => HA.out j hj (by omega))
        exact ⟨by rw [hv]; rfl, _, rfl⟩
  · have hh : hitB T 0 s = false := by unfold hitB; exact decide_eq_false (fun h => hle (by omega))
    rw [hh]
    have hle' : (T.size : Int) < (s.size : Int) := by omega
    obtain ⟨a, cap, rfl⟩ : ∃ a cap, tv = .slice a T.size cap := by
      rcases ht with ⟨rfl, h0⟩ | ⟨g, rfl, hg⟩
      · exact ⟨none, 0, by rw [h0]⟩
      · exact ⟨_, _, rfl⟩
    go_enter Try.func21, Try.ntmps21
    go_wp2
    go_ret
    exact ⟨rfl, 0, rfl⟩

/-- zzBytes_FnReaderLiteralAgreesAtAnySplit. -/
theorem bytes17 (a : Option Addr) (n cap : Nat) (s : ByteArray) (k : Int) (w : World) (hn : n ≤ maxLen) (hs : s.size ≤ maxLen) :
    Calls Try.prog 17 #[.slice a n cap, .string s, .int .i64 k] w fun e w' => e = .returned (.bool (decide (n + s.size ≤ 1048576))) ∧ w' = w := by
  unfold maxLen at hn hs
  by_cases h1 : (n : Int) ≤ 1048576
  · by_cases h2 : (s.size : Int) ≤ 1048576
    · by_cases h3 : (n : Int) + (s.size : Int) ≤ 1048576
      · rw [decide_eq_true (show n + s.size ≤ 1048576 by omega)]
        go_enter Try.func17, Try.ntmps17
        go_wp2
        go_ret
        exact ⟨rfl, rfl⟩
      · rw [decide_eq_false (show ¬ n + s.size ≤ 1048576 by omega)]
        go_enter Try.func17, Try.ntmps17
        go_wp2
        go_ret
        exact ⟨rfl, rfl⟩
    · rw [decide_eq_false (show ¬ n + s.size ≤ 1048576 by omega)]
      go_enter Try.func17, Try.ntmps17
      go_wp2
      go_ret
      exact ⟨rfl, rfl⟩
  · rw [decide_eq_false (show ¬ n + s.size ≤ 1048576 by omega)]
    go_enter Try.func17, Try.ntmps17
    go_wp2
    go_ret
    exact ⟨rfl, rfl⟩

end Go.Proofs.Qxb6613739a
