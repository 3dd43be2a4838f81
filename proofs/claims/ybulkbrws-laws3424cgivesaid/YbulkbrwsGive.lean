/-
  The walk of (*channel).give.
-/
import Derived.Test.YbulkbrwsGave
import Derived.Deep.RegionLawGrows
import Derived.Laws.OwnMore
namespace Go.Proofs.Ybulkbrws
open Go.ChangeShapes Go.WideShapes Go.ChangeAt Go.RowKit

section
variable {P : Program} {ops : Array Oper} {rest : List Oper} {o : Oper} {a : Act} {w : World} {Q : Exit → Act → World → Prop}
theorem wpList_load_row_g (hw : Region.wanted o (yielded ops a.tmps) = true) (ty : TypeId) (x : Operand) (ho : o.op = .load ty x)
    (g : Nat) (hx : a.eval x = .pointer (some ⟨g, 0, none⟩)) (t : TypeId) (cs : Array Value) (fr : Nat × Nat) (d : TypeDesc) (hg : w.heap[g]? = some (.cells cs t fr))
    (hu : P.underlying ty = some d) (hd : (match d with | .struct _ | .array _ _ => true | _ => false) = true) (hi : (P.info? ty).map (·.size) = some cs.size)
    (h : wpList P ops Q rest (a.put o.dst (.agg cs)) w) : wpList P ops Q (o :: rest) a w :=
  wpList_step fun K hK => by
    rw [if_pos hw]
    exact wp_load_row ty x ho g hx t cs fr d hg hu hd hi (hK _ _ h)
end

theorem own_row {w : World} {base : Nat} {v : Value} {Ss : List ByteArray} {e : ByteArray} (h : w.ownsRow base 9 1 v (Ss.length + 1) (ss Ss ++ [.string e])) :
    ∃ g cap, v = .slice (some ⟨g, 0, none⟩) (Ss ++ [e]).length cap ∧ base ≤ g ∧ SRow w (some ⟨g, 0, none⟩) cap (Ss ++ [e]) := by
  have hx : ss Ss ++ [.string e] = ss (Ss ++ [e]) := by simp [ss]
  rw [hx] at h
  rcases h.2 with ⟨_, h'⟩ | ⟨g, cap, cur, rfl, hg, hb, _⟩
  · omega
  · refine ⟨g, cap, by simp, hg, (fun h => by cases h), fun _ => ⟨g, 0, rfl, (Array.getElem?_eq_some_iff.1 hb).1, fun i hi => ?_⟩⟩
    rw [Nat.zero_add, h.cellAt i (by simp at hi ⊢; omega), ss_at _ _ hi]


set_option linter.unusedSimpArgs false in
set_option maxHeartbeats 4000000 in
/-- give at place 0, nothing to count. -/
theorem give_no_0 (G : Nat) (e : ByteArray) (a : Int) (KB : Array Value) (p0 : Option Addr) (S0 : List ByteArray) (g1 : Value) (w : World) (hC : Chan w G e (KC a) KB (.slice p0 S0.length S0.length) g1) (hS : SRow w p0 S0.length S0) (hn : S0.length ≤ 2000) (hno : e.toList.isEmpty = true ∨ (e.toList.isEmpty = false ∧ hasB S0 e = true)) :
    Calls Yba.prog 8 #[.pointer (some ⟨G, 0, none⟩), .agg (KC a)] w fun en w' => en = .returned (.bool false) ∧ Below w.heap.size w w' := by
  have ce := (hC.below ((Below.refl _ _).alloc (Nat.le_refl _) (.cells (KC a) 27))).etag
  have HC := hide (hC.below ((Below.refl _ _).alloc (Nat.le_refl _) (.cells (KC a) 27)))
  have HS := hide (hS.below ((Below.refl _ _).alloc (Nat.le_refl _) (.cells (KC a) 27)))
  have HB := hide (heap_alloc_new w (.cells (KC a) 27))
  have HW := hide ((Below.refl w.heap.size w).alloc (Nat.le_refl _) (.cells (KC a) 27))
  clear hC hS
  rcases hno with hno | ⟨hno, hyes⟩
  · go_enter Yba.func8, Yba.ntmps8
    go_wp2
    go_ret
    exact ⟨rfl, unhide HW⟩
  · go_enter Yba.func8, Yba.ntmps8
    go_wp2_with (refine wpList_load_row_g (by rfl) 27 (.tmp 3) rfl w.heap.size rfl 27 (KC a) (0, 0) _ (unhide HB) Yba.underlying27 rfl (i27 a) ?_)
    refine (gave_0 G e a KB p0 S0.length S0 g1 _ (unhide HC) (unhide HS) (by omega)).mono ?_
    rintro en w' ⟨rfl, hb⟩
    rw [hyes]
    have hBw : Below w.heap.size w w' := (unhide HW).trans (hb.mono (unhide HW).size)
    go_wp2
    go_ret
    exact ⟨rfl, hBw⟩

set_option linter.unusedSimpArgs false in
set_option maxHeartbeats 4000000 in
/-- give at place 0, counted. -/
theorem give_yes_0 (G : Nat) (e : ByteArray) (a : Int) (KB : Array Value) (p0 : Option Addr) (S0 : List ByteArray) (g1 : Value) (w : World) (hC : Chan w G e (KC a) KB (.slice p0 S0.length S0.length) g1) (hS : SRow w p0 S0.length S0) (hn : S0.length ≤ 2000) (hn1 : S0.length ≤ 1024) (he : e.toList.isEmpty = false) (hnot : hasB S0 e = false) :
    Calls Yba.prog 8 #[.pointer (some ⟨G, 0, none⟩), .agg (KC a)] w fun en w' => en = .returned (.bool true) ∧ ∃ p' c', Chan w' G e (KC a) KB (.slice p' (S0.length + 1) c') g1 ∧ SRow w' p' c' (S0 ++ [e]) ∧ Below G w w' ∧ ∀ k, k < w.heap.size → k ≠ G → w'.heap[k]? = w.heap[k]? := by
  obtain ⟨i0, hi0, hz0, hz1, hz2⟩ := info_parts infos9
  have ce := (hC.below ((Below.refl _ _).alloc (Nat.le_refl _) (.cells (KC a) 27))).etag
  have hltG := hC.lt
  have HC := hide (hC.below ((Below.refl _ _).alloc (Nat.le_refl _) (.cells (KC a) 27)))
  have HS := hide (hS.below ((Below.refl _ _).alloc (Nat.le_refl _) (.cells (KC a) 27)))
  have HB := hide (heap_alloc_new w (.cells (KC a) 27))
  have HW := hide ((Below.refl w.heap.size w).alloc (Nat.le_refl _) (.cells (KC a) 27))
  clear hC hS
  go_enter Yba.func8, Yba.ntmps8
  go_wp2_with (refine wpList_load_row_g (by rfl) 27 (.tmp 3) rfl w.heap.size rfl 27 (KC a) (0, 0) _ (unhide HB) Yba.underlying27 rfl (i27 a) ?_)
  refine (gave_0 G e a KB p0 S0.length S0 g1 _ (unhide HC) (unhide HS) (by omega)).mono ?_
  rintro en w1 ⟨rfl, hb1⟩
  rw [hnot]
  have HC1 := hide ((unhide HC).below hb1)
  have HS1 := hide ((unhide HS).below hb1)
  have HB1 := hide ((hb1.block w.heap.size (by simp)).trans (unhide HB))
  have HW1 := hide ((unhide HW).trans (hb1.mono (unhide HW).size))
  clear hb1 HC HS HB HW ce
  go_wp2_with (refine wpList_load_row rfl 27 (.tmp 3) rfl w.heap.size rfl 27 (KC a) (0, 0) _ (unhide HB1) Yba.underlying27 rfl (i27 a) ?_)
  refine (slot_0 G e a KB (.slice p0 S0.length S0.length) g1 _ (unhide HC1)).mono ?_
  rintro en w2 ⟨rfl, hb2⟩
  have HC2 := hide ((unhide HC1).below hb2)
  have HS2 := hide ((unhide HS1).below hb2)
  have HW2 := hide ((unhide HW1).trans (hb2.mono (unhide HW1).size))
  have lt2 := (unhide HC2).lt
  clear hb2 HC1 HS1 HB1 HW1
  have cg := (unhide HC2).at0
  have ce := (unhide HC2).etag
  have ag : ∀ X, (w2.drew.alloc X).cell? ⟨G, 69, none⟩ = some (.slice p0 S0.length S0.length) := fun X => ((unhide HC2).below (((Below.refl _ _).drew).alloc (Nat.le_refl _) X)).at0
  have HL : Hid (∀ (X : Obj) (b : Addr), p0 = some b → ∀ j u, (ss S0)[j]? = some u → (w2.drew.alloc X).cell? (b.add j) = some u) := by
    intro X b hb j u hu
    have h0 : 0 < S0.length := by have := (List.getElem?_eq_some_iff.1 hu).1; rw [ss_len] at this; omega
    obtain ⟨ad, e1, h2⟩ := ((unhide HS2).below (((Below.refl _ _).drew).alloc (Nat.le_refl _) X)).src h0
    rw [hb] at e1
    cases e1
    exact h2 j u hu
  have HN : Hid (∀ (t : TypeId) (j : Nat) (u : Value), [Value.string e][j]? = some u → (w2.drew.alloc (.cells #[.string e] t)).cell? ((⟨w2.heap.size, 0, none⟩ : Addr).add j) = some u) := by
    intro t j u hj
    match j, hj with
    | 0, hj =>
      simp at hj
      subst hj
      rw [Addr.add_mid]
      exact (cell_of_row _ _ _ _ t (0, 0) (heap_alloc_new w2.drew (.cells #[.string e] t)))
  have HO : Hid (∀ u ∈ [Value.string e], u.oneCell' = true) := by intro u hu; simp at hu; subst hu; rfl
  have HQ : Hid (p0 = Option.none → S0.length = 0 ∧ S0.length = 0) := fun h => ⟨by rw [((unhide HS2).1 h).1]; rfl, by rw [((unhide HS2).1 h).1]; rfl⟩
  go_wp2
  go_region_law (refine step_append_grows rfl (.tmp 26) (.tmp 31) 22 rfl 9 i0 (.string ⟨#[]⟩) 1 16 Yba.underlying22 hi0 hz0 hz1 hz2 rfl (by decide) p0 S0.length S0.length (ss S0) (by rfl) (unhide HQ) (by rw [ss_len, Nat.mul_one]) (unhide HL _) ⟨w2.heap.size, 0, none⟩ 1 1 [.string e] (by rfl) rfl (unhide HN _) (unhide HO) (by omega) (by unfold maxLen; omega) (by omega) ?_; intro v3 w3 hown hgrow; obtain ⟨g3, cap3, rfl, hg3, hr3⟩ := own_row hown; have hbx := ((Below.refl w2.heap.size w2).drew.alloc (Nat.le_refl _) _).grown hgrow (by simp) (fun k h => by cases h); have HC3 := hide ((unhide HC2).below hbx); have hcl := (unhide HC3).at0; have hfz := ((unhide HC3).there 69 1 (by omega) 0 (by omega)).2)
  all_goals go_wp2
  all_goals go_ret
  all_goals have hGg : G < g3 := by simp at hg3; omega
  all_goals exact ⟨rfl, _, cap3, (unhide HC3).set0 _, hr3.setCell (fun ad h => by cases h; exact hGg) 69 _, (((unhide HW2).mono (Nat.le_of_lt hltG)).trans (hbx.mono (Nat.le_of_lt lt2))).setCell (p := ⟨G, 69, none⟩) (Nat.le_refl _) _, fun k hk hne => by rw [Below.heap_setCell _ _ _ _ hne, hbx.block k (Nat.lt_of_lt_of_le hk (unhide HW2).size), (unhide HW2).block k hk]⟩


set_option linter.unusedSimpArgs false in
set_option maxHeartbeats 4000000 in
/-- give at place 1, nothing to count. -/
theorem give_no_1 (G : Nat) (e : ByteArray) (a b : Int) (hab : (a == b) = false) (g0 : Value) (p1 : Option Addr) (S1 : List ByteArray) (w : World) (hC : Chan w G e (KC a) (KC b) g0 (.slice p1 S1.length S1.length)) (hS : SRow w p1 S1.length S1) (hn : S1.length ≤ 2000) (hno : e.toList.isEmpty = true ∨ (e.toList.isEmpty = false ∧ hasB S1 e = true)) :
    Calls Yba.prog 8 #[.pointer (some ⟨G, 0, none⟩), .agg (KC b)] w fun en w' => en = .returned (.bool false) ∧ Below w.heap.size w w' := by
  have ce := (hC.below ((Below.refl _ _).alloc (Nat.le_refl _) (.cells (KC b) 27))).etag
  have HC := hide (hC.below ((Below.refl _ _).alloc (Nat.le_refl _) (.cells (KC b) 27)))
  have HS := hide (hS.below ((Below.refl _ _).alloc (Nat.le_refl _) (.cells (KC b) 27)))
  have HB := hide (heap_alloc_new w (.cells (KC b) 27))
  have HW := hide ((Below.refl w.heap.size w).alloc (Nat.le_refl _) (.cells (KC b) 27))
  clear hC hS
  rcases hno with hno | ⟨hno, hyes⟩
  · go_enter Yba.func8, Yba.ntmps8
    go_wp2
    go_ret
    exact ⟨rfl, unhide HW⟩
  · go_enter Yba.func8, Yba.ntmps8
    go_wp2_with (refine wpList_load_row_g (by rfl) 27 (.tmp 3) rfl w.heap.size rfl 27 (KC b) (0, 0) _ (unhide HB) Yba.underlying27 rfl (i27 b) ?_)
    refine (gave_1 G e a b hab g0 p1 S1.length S1 _ (unhide HC) (unhide HS) (by omega)).mono ?_
    rintro en w' ⟨rfl, hb⟩
    rw [hyes]
    have hBw : Below w.heap.size w w' := (unhide HW).trans (hb.mono (unhide HW).size)
    go_wp2
    go_ret
    exact ⟨rfl, hBw⟩

set_option linter.unusedSimpArgs false in
set_option maxHeartbeats 4000000 in
/-- give at place 1, counted. -/
theorem give_yes_1 (G : Nat) (e : ByteArray) (a b : Int) (hab : (a == b) = false) (g0 : Value) (p1 : Option Addr) (S1 : List ByteArray) (w : World) (hC : Chan w G e (KC a) (KC b) g0 (.slice p1 S1.length S1.length)) (hS : SRow w p1 S1.length S1) (hn : S1.length ≤ 2000) (hn1 : S1.length ≤ 1024) (he : e.toList.isEmpty = false) (hnot : hasB S1 e = false) :
    Calls Yba.prog 8 #[.pointer (some ⟨G, 0, none⟩), .agg (KC b)] w fun en w' => en = .returned (.bool true) ∧ ∃ p' c', Chan w' G e (KC a) (KC b) g0 (.slice p' (S1.length + 1) c') ∧ SRow w' p' c' (S1 ++ [e]) ∧ Below G w w' ∧ ∀ k, k < w.heap.size → k ≠ G → w'.heap[k]? = w.heap[k]? := by
  obtain ⟨i0, hi0, hz0, hz1, hz2⟩ := info_parts infos9
  have ce := (hC.below ((Below.refl _ _).alloc (Nat.le_refl _) (.cells (KC b) 27))).etag
  have hltG := hC.lt
  have HC := hide (hC.below ((Below.refl _ _).alloc (Nat.le_refl _) (.cells (KC b) 27)))
  have HS := hide (hS.below ((Below.refl _ _).alloc (Nat.le_refl _) (.cells (KC b) 27)))
  have HB := hide (heap_alloc_new w (.cells (KC b) 27))
  have HW := hide ((Below.refl w.heap.size w).alloc (Nat.le_refl _) (.cells (KC b) 27))
  clear hC hS
  go_enter Yba.func8, Yba.ntmps8
  go_wp2_with (refine wpList_load_row_g (by rfl) 27 (.tmp 3) rfl w.heap.size rfl 27 (KC b) (0, 0) _ (unhide HB) Yba.underlying27 rfl (i27 b) ?_)
  refine (gave_1 G e a b hab g0 p1 S1.length S1 _ (unhide HC) (unhide HS) (by omega)).mono ?_
  rintro en w1 ⟨rfl, hb1⟩
  rw [hnot]
  have HC1 := hide ((unhide HC).below hb1)
  have HS1 := hide ((unhide HS).below hb1)
  have HB1 := hide ((hb1.block w.heap.size (by simp)).trans (unhide HB))
  have HW1 := hide ((unhide HW).trans (hb1.mono (unhide HW).size))
  clear hb1 HC HS HB HW ce
  go_wp2_with (refine wpList_load_row rfl 27 (.tmp 3) rfl w.heap.size rfl 27 (KC b) (0, 0) _ (unhide HB1) Yba.underlying27 rfl (i27 b) ?_)
  refine (slot_1 G e a b hab g0 (.slice p1 S1.length S1.length) _ (unhide HC1)).mono ?_
  rintro en w2 ⟨rfl, hb2⟩
  have HC2 := hide ((unhide HC1).below hb2)
  have HS2 := hide ((unhide HS1).below hb2)
  have HW2 := hide ((unhide HW1).trans (hb2.mono (unhide HW1).size))
  have lt2 := (unhide HC2).lt
  clear hb2 HC1 HS1 HB1 HW1
  have cg := (unhide HC2).at1
  have ce := (unhide HC2).etag
  have ag : ∀ X, (w2.drew.alloc X).cell? ⟨G, 70, none⟩ = some (.slice p1 S1.length S1.length) := fun X => ((unhide HC2).below (((Below.refl _ _).drew).alloc (Nat.le_refl _) X)).at1
  have HL : Hid (∀ (X : Obj) (b : Addr), p1 = some b → ∀ j u, (ss S1)[j]? = some u → (w2.drew.alloc X).cell? (b.add j) = some u) := by
    intro X b hb j u hu
    have h0 : 0 < S1.length := by have := (List.getElem?_eq_some_iff.1 hu).1; rw [ss_len] at this; omega
    obtain ⟨ad, e1, h2⟩ := ((unhide HS2).below (((Below.refl _ _).drew).alloc (Nat.le_refl _) X)).src h0
    rw [hb] at e1
    cases e1
    exact h2 j u hu
  have HN : Hid (∀ (t : TypeId) (j : Nat) (u : Value), [Value.string e][j]? = some u → (w2.drew.alloc (.cells #[.string e] t)).cell? ((⟨w2.heap.size, 0, none⟩ : Addr).add j) = some u) := by
    intro t j u hj
    match j, hj with
    | 0, hj =>
      simp at hj
      subst hj
      rw [Addr.add_mid]
      exact (cell_of_row _ _ _ _ t (0, 0) (heap_alloc_new w2.drew (.cells #[.string e] t)))
  have HO : Hid (∀ u ∈ [Value.string e], u.oneCell' = true) := by intro u hu; simp at hu; subst hu; rfl
  have HQ : Hid (p1 = Option.none → S1.length = 0 ∧ S1.length = 0) := fun h => ⟨by rw [((unhide HS2).1 h).1]; rfl, by rw [((unhide HS2).1 h).1]; rfl⟩
  go_wp2
  go_region_law (refine step_append_grows rfl (.tmp 26) (.tmp 31) 22 rfl 9 i0 (.string ⟨#[]⟩) 1 16 Yba.underlying22 hi0 hz0 hz1 hz2 rfl (by decide) p1 S1.length S1.length (ss S1) (by rfl) (unhide HQ) (by rw [ss_len, Nat.mul_one]) (unhide HL _) ⟨w2.heap.size, 0, none⟩ 1 1 [.string e] (by rfl) rfl (unhide HN _) (unhide HO) (by omega) (by unfold maxLen; omega) (by omega) ?_; intro v3 w3 hown hgrow; obtain ⟨g3, cap3, rfl, hg3, hr3⟩ := own_row hown; have hbx := ((Below.refl w2.heap.size w2).drew.alloc (Nat.le_refl _) _).grown hgrow (by simp) (fun k h => by cases h); have HC3 := hide ((unhide HC2).below hbx); have hcl := (unhide HC3).at1; have hfz := ((unhide HC3).there 70 1 (by omega) 0 (by omega)).2)
  all_goals go_wp2
  all_goals go_ret
  all_goals have hGg : G < g3 := by simp at hg3; omega
  all_goals exact ⟨rfl, _, cap3, (unhide HC3).set1 _, hr3.setCell (fun ad h => by cases h; exact hGg) 70 _, (((unhide HW2).mono (Nat.le_of_lt hltG)).trans (hbx.mono (Nat.le_of_lt lt2))).setCell (p := ⟨G, 70, none⟩) (Nat.le_refl _) _, fun k hk hne => by rw [Below.heap_setCell _ _ _ _ hne, hbx.block k (Nat.lt_of_lt_of_le hk (unhide HW2).size), (unhide HW2).block k hk]⟩


set_option maxHeartbeats 1000000 in
/-- reads. -/
theorem reads_any (G : Nat) (e : ByteArray) (KA KB : Array Value) (p0 : Option Addr) (n0 c0 : Nat) (p1 : Option Addr) (n1 c1 : Nat) (w : World) (hC : Chan w G e KA KB (.slice p0 n0 c0) (.slice p1 n1 c1)) (h0 : n0 ≤ 2000) (h1 : n1 ≤ 2000) :
    Calls Yba.prog 9 #[.pointer (some ⟨G, 0, none⟩)] w fun en w' => en = .returned (.int .i64 ((n0 : Int) + n1)) ∧ ∃ nq, w' = w.drewN nq := by
  have e2 := hC.at0
  have e3 := hC.at1
  clear hC
  go_enter Yba.func9, Yba.ntmps9
  go_wp2
  go_quiet (fail)
  go_wp2
  go_ret
  refine ⟨?_, _, rfl⟩
  show Ending.returned (Value.int .i64 _) = _
  congr 2
#print axioms reads_any

#print axioms give_yes_0
#print axioms give_yes_1
end Go.Proofs.Ybulkbrws
