import Derived.Test.Qxb6613686aEmpCalls
import Derived.Maps.OwnSet
namespace Go.Proofs.Qxb6613686a
open Go.RowKit Go.Maps Go.WideMaps
set_option linter.unusedVariables false
set_option linter.unusedSimpArgs false

theorem Try.info9 : (Try.prog.info? 9).map (fun i => (i.zero, i.size, i.bytes)) = some (some (.string ByteArray.empty), 1, 16) := by kernel_rfl
theorem law9 : Keyed Try.prog 9 := string_keyed Try.underlying9
theorem zero21 (w : World) : (zeroValue 21).run Try.prog w = .ok (.int .i32 0) w := by kernel_rfl

/-- A map from ids to their places. -/
def MapIs (D : DataW Unit) (es : List ByteArray) : Prop :=
  ∀ s : ByteArray, Maps.has D (.string s.data.toList) = decide (fnd es s < es.length) ∧ (fnd es s < es.length → D.atKey (.string s.data.toList) (.lit (.int .i32 0)) = .lit (.int .i32 (fnd es s : Int)))

theorem mapIs_nil : MapIs (.map []) [] := fun s => ⟨by simp [Maps.has, fnd], by simp [fnd]⟩

theorem lit_ne {a b : ByteArray} (h : a ≠ b) : (Lit.string a.data.toList) ≠ .string b.data.toList := by
  intro e
  apply h
  cases a; cases b
  simp at e
  simp [e]

theorem mapIs_put {D : DataW Unit} {es : List ByteArray} {s : ByteArray} (hD : IsMap D) (h : MapIs D es) (hs : s ∉ es) : MapIs (D.put (.string s.data.toList) (.lit (.int .i32 (es.length : Int)))) (es ++ [s]) := by
  intro x
  by_cases hx : x = s
  · subst hx
    have hf : fnd (es ++ [x]) x = es.length := fnd_at (by simp) (by simp) (fun i hi e => by
      rw [List.getD_eq_getElem?_getD, List.getElem?_append_left hi] at e
      exact hs (mem_of_getD hi (by rw [List.getD_eq_getElem?_getD]; exact e)))
    have hkl : WideAt.IsKeyLit (Lit.string x.data.toList) := trivial
    rw [has_put_same hD hkl, atKey_put_same hD hkl, hf]
    simp
  · have hne := lit_ne hx
    rw [has_put_other hne, atKey_put_other hne]
    obtain ⟨h1, h2⟩ := h x
    by_cases hm : x ∈ es
    · have hl := (fnd_of_mem hm).1
      rw [fnd_append hm, h1]
      refine ⟨?_, fun _ => h2 hl⟩
      simp [hl]; omega
    · have hm' : x ∉ es ++ [s] := by simp [hm, hx]
      rw [h1, fnd_of_not hm, fnd_of_not hm']
      simp

/-- The holder's employers are es. -/
structure Emp (kb mb B : Nat) (es : List ByteArray) (w : World) : Prop where
  size : B ≤ w.heap.size
  kbB : kb < B
  mbB : mb < B
  now : ∃ (ev v0 v1 v2 v5 : Value) (D : DataW Unit), w.heap[kb]? = some (.cells #[v0, v1, v2, ev, .map (some mb), v5] 47 (0, 0)) ∧ w.ownsRow B 9 1 ev es.length (es.map Value.string) ∧
    w.ownsMap Try.prog 9 (plainElem Try.prog 21) mb es.length D ∧ MapIs D es

theorem own_below {w w' : World} {base e size n : Nat} {v : Value} {xs : List Value} (h : w.ownsRow base e size v n xs) (hb : Below w.heap.size w w') : w'.ownsRow base e size v n xs := by
  have hl := h.lt
  refine h.kept (row := none) ⟨hb.os, hb.tape, hb.output, hb.size, fun k hk _ => hb.block k hk⟩ ?_
  cases hv : v.ownBlock with
  | none => exact .inl rfl
  | some k => exact .inr (by simp)

theorem map_below {w w' : World} {k b n : Nat} {R : Value → Option (DataW Unit × List MemPlace)} {D : DataW Unit} (h : w.ownsMap Try.prog k R b n D) (hb : Below w.heap.size w w') : w'.ownsMap Try.prog k R b n D :=
  h.kept (row := none) ⟨hb.os, hb.tape, hb.output, hb.size, fun k hk _ => hb.block k hk⟩ (by simp)

/-- What a call of employer leaves. -/
structure EmpBy (N kb mb B : Nat) (es : List ByteArray) (w w' : World) : Prop where
  emp : Emp kb mb B es w'
  below : Below N w w'

/-- The guard says no. -/
def GuardNo (l : Int) (es : List ByteArray) (id : ByteArray) : Prop := l < 0 ∨ ∃ j : Nat, l = (j : Int) ∧ j < es.length ∧ es.getD j ByteArray.empty ≠ id

theorem emp_cell {kb mb B : Nat} {es : List ByteArray} {w : World} {ev : Value} (hown : w.ownsRow B 9 1 ev es.length (es.map Value.string)) (j : Nat) (hj : j < es.length) :
    ∃ g cap, ev = .slice (some ⟨g, 0, none⟩) es.length cap ∧ w.cell? ⟨g, j, none⟩ = some (.string (es.getD j ByteArray.empty)) := by
  have ho := hown
  rcases hown.2 with ⟨_, h0⟩ | ⟨g, cap, _, rfl, _⟩
  · omega
  · refine ⟨g, cap, rfl, ?_⟩
    rw [ho.cellAt j (by omega)]
    simp [hj]

set_option maxHeartbeats 1600000 in
/-- The hint is right. -/
theorem emp_hint (kb mb B j : Nat) (es : List ByteArray) (id : ByteArray) (w : World) (hE : Emp kb mb B es w) (hn : es.Nodup) (hj : j < es.length) (he : es.getD j ByteArray.empty = id) (hlen : es.length ≤ 1024) :
    Calls Try.prog 25 #[.pointer (some ⟨kb, 0, none⟩), .int .i32 (j : Int), .string id] w fun e w' => e = .returned (.int .i32 (fnd es id : Int)) ∧ w' = w := by
  obtain ⟨ev, v0, v1, v2, v5, D, hk, hown, _, _⟩ := hE.now
  obtain ⟨g, cap, rfl, hcj⟩ := emp_cell (kb := kb) (mb := mb) hown j hj
  rw [he] at hcj
  have c3 : w.cell? ⟨kb, 3, none⟩ = some (.slice (some ⟨g, 0, none⟩) es.length cap) := by rw [cell_of_row _ _ _ _ _ _ hk]; rfl
  have hb := beq_same id
  have hf := fnd_nodup hn hj he
  rw [hf]
  clear hf hown hk hE he
  go_enter Try.func25, Try.ntmps25
  go_wp2
  go_ret
  exact ⟨rfl, rfl⟩

set_option maxHeartbeats 1600000 in
/-- The hint is wrong, or none; the id is there. -/
theorem emp_look (kb mb B : Nat) (es : List ByteArray) (l : Int) (id : ByteArray) (w : World) (hE : Emp kb mb B es w) (hg : GuardNo l es id) (hl2 : -2147483648 ≤ l) (hlen : es.length ≤ 1024) (hid : id.size ≤ 1048576) (hin : id ∈ es) :
    Calls Try.prog 25 #[.pointer (some ⟨kb, 0, none⟩), .int .i32 l, .string id] w fun e w' => e = .returned (.int .i32 (fnd es id : Int)) ∧ w' = w := by
  obtain ⟨ev, v0, v1, v2, v5, D, hk, hown, hmap, hD⟩ := hE.now
  have c4 : w.cell? ⟨kb, 4, none⟩ = some (.map (some mb)) := by rw [cell_of_row _ _ _ _ _ _ hk]; rfl
  have hkey := keyOf_string_mk Try.underlying9 (s := id) (by unfold maxLen; omega)
  obtain ⟨hh, hat0⟩ := hD id
  have hat1 := hat0 (fnd_of_mem hin).1
  have hh1 : Maps.has D (.string id.data.toList) = true := by rw [hh]; simp [(fnd_of_mem hin).1]
  clear hat0 hh hD
  obtain ⟨f, hf⟩ : ∃ f, f = fnd es id := ⟨_, rfl⟩
  rw [← hf] at hat1 ⊢
  have HA : Hid (D.atKey (.string id.data.toList) (.lit (.int .i32 0)) = .lit (.int .i32 (f : Int))) := hat1
  clear hat1 hf
  rcases hg with hl | ⟨j, rfl, hj, he⟩
  · clear hown hk
    go_enter Try.func25, Try.ntmps25
    go_wp2_with (at_lookup; refine wpList_lookup_own_ok_int _ rfl _ _ 43 rfl 9 21 .i32 law9 Try.underlying43 Try.underlying21 (zero21 _) mb es.length D rfl hmap _ _ rfl hkey ?_; intro c hat hwc)
    go_ret
    have hc : c = (f : Int) := by have := hat.symm.trans HA.out; simpa using this
    exact ⟨by rw [hc]; rfl, rfl⟩
  · obtain ⟨g, cap, rfl, hcj⟩ := emp_cell (kb := kb) (mb := mb) hown j hj
    have c3 : w.cell? ⟨kb, 3, none⟩ = some (.slice (some ⟨g, 0, none⟩) es.length cap) := by rw [cell_of_row _ _ _ _ _ _ hk]; rfl
    have hb := beq_other he
    obtain ⟨x, hx⟩ : ∃ x, x = es.getD j ByteArray.empty := ⟨_, rfl⟩
    rw [← hx] at hcj hb
    clear hown hk hE he hx
    go_enter Try.func25, Try.ntmps25
    go_wp2_with (at_lookup; refine wpList_lookup_own_ok_int _ rfl _ _ 43 rfl 9 21 .i32 law9 Try.underlying43 Try.underlying21 (zero21 _) mb es.length D rfl hmap _ _ rfl hkey ?_; intro c hat hwc)
    go_ret
    have hc : c = (f : Int) := by have := hat.symm.trans HA.out; simpa using this
    exact ⟨by rw [hc]; rfl, rfl⟩

/-- Behind the append: what the store and the map's update want. -/
theorem emp_mid {N kb mb B n g cap : Nat} {ev v0 v1 v2 v5 : Value} {D : DataW Unit} {o : Obj} {row : Option Nat} {w w1 w2 : World} (hkB : kb < B) (hmB : mb < B) (hBw : B ≤ w.heap.size) (hNk : N ≤ kb) (hNm : N ≤ mb)
    (hk : w.heap[kb]? = some (.cells #[v0, v1, v2, ev, .map (some mb), v5] 47 (0, 0))) (hmap : w.ownsMap Try.prog 9 (plainElem Try.prog 21) mb n D) (hb : Below w.heap.size w w1)
    (hg : (w1.alloc o).grownBy w2 row) (hrow : ∀ k, row = some k → B ≤ k) :
    w2.heap[kb]? = some (.cells #[v0, v1, v2, ev, .map (some mb), v5] 47 (0, 0)) ∧ w2.ownsMap Try.prog 9 (plainElem Try.prog 21) mb n D ∧ Below N w w2 := by
  have hs := hb.size
  have hne : ∀ k, k < B → some k ≠ row := fun k hk e => by have := hrow k e.symm; omega
  have hold : ∀ k, k < B → w2.heap[k]? = w.heap[k]? := fun k hk => by
    rw [hg.block k (by simp; omega) (hne k hk), Below.heap_alloc _ _ _ (by omega), hb.block k (by omega)]
  refine ⟨by rw [hold kb hkB]; exact hk, ?_, ?_⟩
  · have := (map_below hmap hb).alloc o
    exact this.kept hg (hne mb hmB)
  · have h2 := hg.size
    simp at h2
    exact ⟨hg.os.trans hb.os, hg.tape.trans hb.tape, hg.output.trans hb.output, by omega, fun k hk => hold k (by omega)⟩

/-- Behind all. -/
theorem emp_done {N kb mb B g cap : Nat} {es : List ByteArray} {id : ByteArray} {ev v0 v1 v2 v5 : Value} {D : DataW Unit} {w w2 w3 : World} (hkB : kb < B) (hmB : mb < B) (hBw : B ≤ w2.heap.size) (hNk : N ≤ kb) (hNm : N ≤ mb) (hin : id ∉ es)
    (hk : w2.heap[kb]? = some (.cells #[v0, v1, v2, ev, .map (some mb), v5] 47 (0, 0))) (hmap0 : w2.ownsMap Try.prog 9 (plainElem Try.prog 21) mb es.length D) (hD : MapIs D es) (hb : Below N w w2)
    (hown : w2.ownsRow B 9 1 (.slice (some ⟨g, 0, none⟩) (es.length + 1) cap) (es.length + 1) (es.map Value.string ++ [.string id]))
    (hmap : w3.ownsMap Try.prog 9 (plainElem Try.prog 21) mb (es.length + 1) (D.put (.string id.data.toList) (.lit (.int .i32 (es.length : Int)))))
    (hg : (w2.setCell ⟨kb, 3, none⟩ (.slice (some ⟨g, 0, none⟩) (es.length + 1) cap)).grownBy w3 (some mb)) : EmpBy N kb mb B (addS es id) w w3 := by
  have hs := hg.size
  simp at hs
  have hkm : kb ≠ mb := by
    rintro rfl
    obtain ⟨es', clock, hx, _⟩ := hmap0
    rw [hk] at hx
    cases hx
  have hkw : kb < w2.heap.size := by omega
  rw [addS_of_not hin]
  refine ⟨⟨by omega, hkB, hmB, .slice (some ⟨g, 0, none⟩) (es.length + 1) cap, v0, v1, v2, v5, _, ?_, ?_, ?_, mapIs_put hmap0.isMap hD hin⟩, ?_⟩
  · rw [hg.block kb (by simpa using hkw) (by simpa using hkm), heap_setCell_same _ _ _ _ _ _ hk]
    rfl
  · have h1 := ownsRow_setCell_below hown (a := ⟨kb, 3, none⟩) hkB (.slice (some ⟨g, 0, none⟩) (es.length + 1) cap)
    have hge := hown.lt g rfl
    have h2 := h1.kept hg (.inr (by simp [Value.ownBlock]; omega))
    simpa using h2
  · simpa using hmap
  · refine (hb.setCell (p := ⟨kb, 3, none⟩) hNk (.slice (some ⟨g, 0, none⟩) (es.length + 1) cap)).grown hg (by simp; omega) ?_
    intro k hk
    simp at hk
    omega

end Go.Proofs.Qxb6613686a
