import Derived.Test.Qxb6613686aEmp
import Derived.WalkSpells
namespace Go.Proofs.Qxb6613686a
open Go.RowKit Go.Maps Go.WideMaps
set_option linter.unusedVariables false
set_option linter.unusedSimpArgs false

theorem wf32 (n : Nat) (h : n ≤ 1024) : (Lit.int .i32 (n : Int)).wf = true := by
  simp [Lit.wf, IntKind.min, IntKind.max, IntKind.signed, IntKind.bits]
  omega

theorem own_shape {w : World} {base e size n : Nat} {v : Value} {xs : List Value} (h : w.ownsRow base e size v n xs) : ∃ a cap, v = .slice a n cap := by
  rcases h.2 with ⟨rfl, rfl⟩ | ⟨g, cap, _, rfl, _⟩
  · exact ⟨none, 0, rfl⟩
  · exact ⟨_, cap, rfl⟩

/-- The facts that the walk wants behind the append. -/
theorem emp_facts {kb mb n g cap : Nat} {ev v0 v1 v2 v5 u : Value} {D : DataW Unit} {w2 : World} (hk : w2.heap[kb]? = some (.cells #[v0, v1, v2, ev, .map (some mb), v5] 47 (0, 0))) (hmap : w2.ownsMap Try.prog 9 (plainElem Try.prog 21) mb n D) :
    w2.cell? ⟨kb, 3, none⟩ = some ev ∧ w2.frozen? ⟨kb, 3, none⟩ = false ∧ w2.cell? ⟨kb, 4, none⟩ = some (.map (some mb)) ∧ (w2.setCell ⟨kb, 3, none⟩ u).ownsMap Try.prog 9 (plainElem Try.prog 21) mb n D := by
  refine ⟨by rw [cell_of_row _ _ _ _ _ _ hk]; rfl, frozen_of_row _ _ _ _ _ hk, by rw [cell_of_row _ _ _ _ _ _ hk]; rfl, hmap.setCell ?_ _⟩
  rintro rfl
  obtain ⟨es', clock, hx, _⟩ := hmap
  rw [hk] at hx
  cases hx

set_option maxHeartbeats 1600000 in
/-- The hint is wrong, or none; the id is new. -/
theorem emp_new (N kb mb B : Nat) (es : List ByteArray) (l : Int) (id : ByteArray) (w : World) (hE : Emp kb mb B es w) (hNk : N ≤ kb) (hNm : N ≤ mb) (hg : GuardNo l es id) (hl2 : -2147483648 ≤ l) (hlen : es.length ≤ 1024) (hid : id.size ≤ 1048576) (hin : id ∉ es) :
    Calls Try.prog 25 #[.pointer (some ⟨kb, 0, none⟩), .int .i32 l, .string id] w fun e w' => e = .returned (.int .i32 (fnd es id : Int)) ∧ EmpBy N kb mb B (addS es id) w w' := by
  obtain ⟨ev, v0, v1, v2, v5, D, hk, hown, hmap, hD⟩ := hE.now
  obtain ⟨i0, hi, hz0, hz1, hz2⟩ := info_parts Try.info9
  have c3 : w.cell? ⟨kb, 3, none⟩ = some ev := by rw [cell_of_row _ _ _ _ _ _ hk]; rfl
  have c4 : w.cell? ⟨kb, 4, none⟩ = some (.map (some mb)) := by rw [cell_of_row _ _ _ _ _ _ hk]; rfl
  have hkey := keyOf_string_mk Try.underlying9 (s := id) (by unfold maxLen; omega)
  have hh1 : Maps.has D (.string id.data.toList) = false := by rw [(hD id).1, fnd_of_not hin]; simp
  have hBw := hE.size
  have hkB := hE.kbB
  have hmB := hE.mbB
  rw [fnd_of_not hin]
  have HK : Hid (w.heap[kb]? = some (.cells #[v0, v1, v2, ev, .map (some mb), v5] 47 (0, 0))) := hk
  have HD : Hid (MapIs D es) := hD
  have HW : Hid ((Lit.int .i32 (es.length : Int)).wf = true) := wf32 _ hlen
  clear hk hD hE
  obtain ⟨a0, cap0, rfl⟩ := own_shape hown
  have hroww : ∀ k, (Value.slice a0 es.length cap0).ownBlock = some k → B ≤ k := fun k e => (hown.lt k e).1
  have HR : Hid (∀ k, (Value.slice a0 es.length cap0).ownBlock = some k → B ≤ k) := hroww
  clear hroww
  rcases hg with hl | ⟨j, rfl, hj, he⟩
  · go_enter Try.func25, Try.ntmps25
    go_wp2_with (at_lookup; refine wpList_lookup_own_ok_int _ rfl _ _ 43 rfl 9 21 .i32 law9 Try.underlying43 Try.underlying21 (zero21 _) mb es.length D rfl hmap _ _ rfl hkey ?_; intro c hat hwc)
    refine (clone27 id w hid).mono ?_
    rintro e w1 ⟨rfl, hb⟩
    have hs1 := hb.size
    have hown1 := own_below hown hb
    have hkw : kb < w.heap.size := by omega
    have c3a : w1.cell? ⟨kb, 3, none⟩ = some (.slice a0 es.length cap0) := (hb.cell (p := ⟨kb, 3, none⟩) hkw).trans c3
    clear c3 c4 hat hwc
    go_wp2_with (first | (at_builtin; go_must (refine wpList_append_lies _ rfl _ _ 33 rfl B 9 i0 (.string ByteArray.empty) 1 16 Try.underlying33 hi hz0 hz1 hz2 rfl (by omega) (.slice a0 es.length cap0) es.length (es.map Value.string) rfl (hown1.alloc _) ⟨w1.heap.size, 0, none⟩ 1 1 [.string id] rfl rfl (cell_one_new _ _ _) (by intro u hu; simp at hu; subst hu; rfl) (by omega) (by unfold maxLen; omega) (by omega) (by simp; omega) (w1.heap.size + 1) (by simp) ?_; intro g cap w2 hown2 hgrow hat2 hlt2; have hM := emp_mid (g := 0) (cap := 0) (N := N) hkB hmB hBw hNk hNm HK.out hmap hb hgrow HR.out; have hF := emp_facts (g := 0) (cap := 0) (u := .slice (some ⟨g, 0, none⟩) (es.length + 1) cap) hM.1 hM.2.1; have HM : Hid (w2.heap[kb]? = some (.cells #[v0, v1, v2, .slice a0 es.length cap0, .map (some mb), v5] 47 (0, 0)) ∧ w2.ownsMap Try.prog 9 (plainElem Try.prog 21) mb es.length D ∧ Below N w w2) := hM; have hG : B ≤ w2.heap.size := (by have := hgrow.size; simp at this; omega); have HG : Hid (B ≤ w2.heap.size) := hG; clear hG; clear hM hgrow hat2 hown1 hown c3a; obtain ⟨d3, f3, d4, hmap2⟩ := hF)) | (at_mapUpdate; go_must (refine wpList_mapUpdate_own _ rfl _ _ _ 43 rfl 9 21 law9 Try.underlying43 _ mb es.length D rfl hmap2 (by unfold maxLen; omega) _ _ _ rfl rfl hkey _ [] (plainElem_int Try.underlying21 HW.out) ?_; intro w3 hmap3 hgrow3)))
    go_ret
    exact ⟨rfl, emp_done hkB hmB HG.out hNk hNm hin HM.out.1 HM.out.2.1 HD.out HM.out.2.2 hown2 hmap3 hgrow3⟩
  · obtain ⟨g0, cap1, hev, hcj⟩ := emp_cell (kb := kb) (mb := mb) hown j hj
    simp only [Value.slice.injEq] at hev
    obtain ⟨rfl, _, rfl⟩ := hev
    have hbq := beq_other he
    obtain ⟨x, hx⟩ : ∃ x, x = es.getD j ByteArray.empty := ⟨_, rfl⟩
    rw [← hx] at hcj hbq
    clear he hx
    go_enter Try.func25, Try.ntmps25
    go_wp2_with (at_lookup; refine wpList_lookup_own_ok_int _ rfl _ _ 43 rfl 9 21 .i32 law9 Try.underlying43 Try.underlying21 (zero21 _) mb es.length D rfl hmap _ _ rfl hkey ?_; intro c hat hwc)
    refine (clone27 id w hid).mono ?_
    rintro e w1 ⟨rfl, hb⟩
    have hs1 := hb.size
    have hown1 := own_below hown hb
    have hkw : kb < w.heap.size := by omega
    have c3a : w1.cell? ⟨kb, 3, none⟩ = some (.slice (some ⟨g0, 0, none⟩) es.length cap0) := (hb.cell (p := ⟨kb, 3, none⟩) hkw).trans c3
    clear c3 c4 hat hwc hcj
    go_wp2_with (first | (at_builtin; go_must (refine wpList_append_lies _ rfl _ _ 33 rfl B 9 i0 (.string ByteArray.empty) 1 16 Try.underlying33 hi hz0 hz1 hz2 rfl (by omega) (.slice (some ⟨g0, 0, none⟩) es.length cap0) es.length (es.map Value.string) rfl (hown1.alloc _) ⟨w1.heap.size, 0, none⟩ 1 1 [.string id] rfl rfl (cell_one_new _ _ _) (by intro u hu; simp at hu; subst hu; rfl) (by omega) (by unfold maxLen; omega) (by omega) (by simp; omega) (w1.heap.size + 1) (by simp) ?_; intro g cap w2 hown2 hgrow hat2 hlt2; have hM := emp_mid (g := 0) (cap := 0) (N := N) hkB hmB hBw hNk hNm HK.out hmap hb hgrow HR.out; have hF := emp_facts (g := 0) (cap := 0) (u := .slice (some ⟨g, 0, none⟩) (es.length + 1) cap) hM.1 hM.2.1; have HM : Hid (w2.heap[kb]? = some (.cells #[v0, v1, v2, (.slice (some ⟨g0, 0, none⟩) es.length cap0), .map (some mb), v5] 47 (0, 0)) ∧ w2.ownsMap Try.prog 9 (plainElem Try.prog 21) mb es.length D ∧ Below N w w2) := hM; have hG : B ≤ w2.heap.size := (by have := hgrow.size; simp at this; omega); have HG : Hid (B ≤ w2.heap.size) := hG; clear hG; clear hM hgrow hat2 hown1 hown c3a; obtain ⟨d3, f3, d4, hmap2⟩ := hF)) | (at_mapUpdate; go_must (refine wpList_mapUpdate_own _ rfl _ _ _ 43 rfl 9 21 law9 Try.underlying43 _ mb es.length D rfl hmap2 (by unfold maxLen; omega) _ _ _ rfl rfl hkey _ [] (plainElem_int Try.underlying21 HW.out) ?_; intro w3 hmap3 hgrow3)))
    go_ret
    exact ⟨rfl, emp_done hkB hmB HG.out hNk hNm hin HM.out.1 HM.out.2.1 HD.out HM.out.2.2 hown2 hmap3 hgrow3⟩

/-- employer: the id's place among those seen, whatever the hint. -/
theorem emp25 (N kb mb B : Nat) (es : List ByteArray) (l : Int) (id : ByteArray) (w : World) (hE : Emp kb mb B es w) (hn : es.Nodup) (hNk : N ≤ kb) (hNm : N ≤ mb) (hl : l < (es.length : Int)) (hl2 : -2147483648 ≤ l) (hlen : es.length ≤ 1024) (hid : id.size ≤ 1048576) :
    Calls Try.prog 25 #[.pointer (some ⟨kb, 0, none⟩), .int .i32 l, .string id] w fun e w' => e = .returned (.int .i32 (fnd es id : Int)) ∧ EmpBy N kb mb B (addS es id) w w' := by
  have key : GuardNo l es id → Calls Try.prog 25 #[.pointer (some ⟨kb, 0, none⟩), .int .i32 l, .string id] w fun e w' => e = .returned (.int .i32 (fnd es id : Int)) ∧ EmpBy N kb mb B (addS es id) w w' := by
    intro hg
    by_cases hin : id ∈ es
    · refine (emp_look kb mb B es l id w hE hg hl2 hlen hid hin).mono ?_
      rintro e w' ⟨rfl, rfl⟩
      exact ⟨rfl, by rw [addS_of_mem hin]; exact hE, Below.refl _ _⟩
    · exact emp_new N kb mb B es l id w hE hNk hNm hg hl2 hlen hid hin
  rcases Int.lt_or_le l 0 with h0 | h0
  · exact key (.inl h0)
  · obtain ⟨j, rfl⟩ : ∃ j : Nat, l = (j : Int) := ⟨l.toNat, by omega⟩
    have hj : j < es.length := by omega
    by_cases he : es.getD j ByteArray.empty = id
    · refine (emp_hint kb mb B j es id w hE hn hj he hlen).mono ?_
      rintro e w' ⟨rfl, rfl⟩
      exact ⟨rfl, by rw [addS_of_mem (mem_of_getD hj he)]; exact hE, Below.refl _ _⟩
    · exact key (.inr ⟨j, rfl, hj, he⟩)

theorem emp14 (N kb mb B : Nat) (es : List ByteArray) (l : Int) (id : ByteArray) (w : World) (hE : Emp kb mb B es w) (hn : es.Nodup) (hNk : N ≤ kb) (hNm : N ≤ mb) (hl : l < (es.length : Int)) (hl2 : -2147483648 ≤ l) (hlen : es.length ≤ 1024) (hid : id.size ≤ 1048576) :
    Calls Try.prog 14 #[.pointer (some ⟨kb, 0, none⟩), .int .i32 l, .string id] w fun e w' => e = .returned (.int .i32 (fnd es id : Int)) ∧ EmpBy N kb mb B (addS es id) w w' := by
  have H := emp25 N kb mb B es l id w hE hn hNk hNm hl hl2 hlen hid
  have HH : Hid (Calls Try.prog 25 #[.pointer (some ⟨kb, 0, none⟩), .int .i32 l, .string id] w fun e w' => e = .returned (.int .i32 (fnd es id : Int)) ∧ EmpBy N kb mb B (addS es id) w w') := H
  clear H hE hn
  go_enter Try.func14, Try.ntmps14
  go_wp2_with fail
  refine HH.out.mono ?_
  rintro e w' ⟨rfl, h⟩
  go_wp2
  go_ret
  exact ⟨rfl, h⟩

end Go.Proofs.Qxb6613686a
