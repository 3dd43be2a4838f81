/-
  roleNumbered where the slot holds a node; the law's own walk.
-/
import Derived.Test.YbulkbsdsGreatAt
namespace Go.Proofs.YbulkbsdsGreat
open Go.RowKit

set_option maxRecDepth 100000 in
set_option maxHeartbeats 1000000 in
/-- roleNumbered: the slot holds x, not 0. -/
theorem role_have (E i b : Nat) (x : Int) (v : Value) (vs : List Value) (f : Nat → Option Nat) (w : World) (hi : i < 4096) (h : Paged w E 6 v vs f) (hf : f (pgOf i) = some b) (hx : w.cell? ⟨b, plOf i, none⟩ = some (.int .i32 x)) (hx0 : x ≠ 0) (y : Int) (hy : Hid (wrap32 (x - 1) = y)) :
    Calls Ybaz.prog 5 #[.pointer (some ⟨E, 0, none⟩), .int .i32 (i : Int)] w fun e w' => e = .returned (.int .i32 y) ∧ w = w' := by
  have HA := hide (at_have E 6 i b v vs f w hi h hf)
  have hx0' : (x == 0) = false := by simpa using hx0
  go_enter Ybaz.func5, Ybaz.ntmps5
  go_wp2_with fail
  refine (unhide HA).mono ?_
  rintro e w' ⟨rfl, rfl⟩
  go_wp2_with fail
  go_ret
  exact ⟨congrArg (fun z => Ending.returned (Value.int .i32 z)) (unhide hy), rfl⟩

/-- &evaluation{}: its cells. -/
def Z82 : Array Value := #[Value.pointer none, Value.pointer none, Value.int IntKind.u8 0, Value.int IntKind.i64 0, Value.slice none 0 0, Value.int IntKind.i64 0, Value.slice none 0 0, Value.map none, Value.map none, Value.map none, Value.map none, Value.map none, Value.map none, Value.map none, Value.map none, Value.map none, Value.map none, Value.map none, Value.map none, Value.map none, Value.map none, Value.map none, Value.pointer none, Value.slice none 0 0, Value.slice none 0 0, Value.slice none 0 0, Value.slice none 0 0, Value.slice none 0 0, Value.map none, Value.map none, Value.map none, Value.slice none 0 0, Value.pointer none, Value.pointer none, Value.map none, Value.slice none 0 0, Value.slice none 0 0, Value.map none, Value.slice none 0 0, Value.map none, Value.pointer none, Value.slice none 0 0, Value.map none, Value.map none, Value.slice none 0 0, Value.map none, Value.map none, Value.map none, Value.slice none 0 0, Value.map none, Value.slice none 0 0, Value.map none, Value.slice none 0 0, Value.pointer none]
set_option maxRecDepth 100000 in
theorem build82 (w : World) : (Instr.build 82 #[]).run Ybaz.prog w = .ok (.agg Z82) w := by kernel_rfl

theorem wp_build82 {o : Oper} {a : Act} {w : World} {K : Act → World → Prop} {Q : Exit → Act → World → Prop} (ho : o.op = .build 82 #[]) (h : K (a.put o.dst (.agg Z82)) w) : Oper.wp Ybaz.prog o a w K Q := by
  unfold Oper.wp execOp
  simp only [ho, List.map_toArray, List.map_nil, Sem.run_bind, build82, Result.andThen_ok, Sem.run_pure]
  exact h

theorem new_paged (w : World) : Paged (w.alloc (.cells Z82 82)) w.heap.size 6 (.slice none 0 0) [] (fun _ => none) := by
  have hb : (w.alloc (.cells Z82 82)).heap[w.heap.size]? = some (.cells Z82 82 (0, 0)) := heap_alloc_new w _
  refine ⟨?_, frozen_of_row _ _ 6 Z82 82 hb, World.ownsRow_nil _ _ _ _, fun p hp => absurd hp (by simp), fun _ _ => rfl, fun p b h => absurd h (by simp), fun p q b h => absurd h (by simp), by simp⟩
  rw [cell_of_row _ _ 6 Z82 82 (0, 0) hb]
  rfl

theorem back32 {v : Int} (h0 : -2147483648 ≤ v) (h1 : v ≤ 2147483647) : wrap32 (wrap32 (v + 1) - 1) = v := by unfold wrap32; omega
theorem back1 : wrap32 (1 - 1) = 0 := by unfold wrap32; omega
theorem not0 {v : Int} (h0 : -2147483648 ≤ v) (h1 : v ≤ 2147483647) (h : v ≠ -1) : wrap32 (v + 1) ≠ 0 := by unfold wrap32; omega

/-- Two slots apart. -/
theorem slots_apart {w : World} {E O : Nat} {v : Value} {vs : List Value} {f : Nat → Option Nat} (h : Paged w E O v vs f) {a b b1 b2 : Nat} (ha : a < 4096) (hb : b < 4096) (h1 : f (pgOf a) = some b1) (h2 : f (pgOf b) = some b2) (hne : a ≠ b) : (⟨b2, plOf b, none⟩ : Addr) ≠ ⟨b1, plOf a, none⟩ := by
  intro e
  simp only [Addr.mk.injEq, and_true] at e
  obtain ⟨e1, e2⟩ := e
  subst e1
  exact hne (page_inj ha hb (h.apart _ _ _ h1 h2) e2.symm)

set_option linter.unusedVariables false in
set_option maxRecDepth 100000 in
set_option maxHeartbeats 4000000 in
theorem law_0 (i j : Nat) (v w : Int) (hv0 : -2147483648 ≤ v) (hv1 : v ≤ 2147483647) (hw0 : -2147483648 ≤ w) (hw1 : w ≤ 2147483647) (hi : i ≤ 65535) (hj : j ≤ 65535) (c1 : v ≠ -1) (c2 : w ≠ -1) (c3 : i % 4096 ≠ j % 4096) (w0 : World) :
    Calls Ybaz.prog 3 #[.int .u16 (i : Int), .int .i32 v, .int .u16 (j : Int), .int .i32 w] w0 fun e w' => e = .returned (.bool true) ∧ Below w0.heap.size w0 w' := by
  have d1 : (v == -1) = false := by simpa using c1
  have d2 : (w == -1) = false := by simpa using c2
  have ea : (i : Int) % 4096 = ((i % 4096 : Nat) : Int) := by omega
  have eb : (j : Int) % 4096 = ((j % 4096 : Nat) : Int) := by omega
  have ha : i % 4096 < 4096 := Nat.mod_lt _ (by omega)
  have hb : j % 4096 < 4096 := Nat.mod_lt _ (by omega)
  generalize i % 4096 = a at *
  generalize j % 4096 = b at *
  have d3 : ((a : Int) == (b : Int)) = false := by simp; omega
  have hEQ := hide c3
  clear c3
  have x0 : Hid ((wrap32 (v + 1)) ≠ 0) := not0 hv0 hv1 c1
  have y0 : Hid ((wrap32 (w + 1)) ≠ 0) := not0 hw0 hw1 c2
  have xb : Hid (wrap32 ((wrap32 (v + 1)) - 1) = v) := back32 hv0 hv1
  have yb : Hid (wrap32 ((wrap32 (w + 1)) - 1) = w) := back32 hw0 hw1
  go_enter Ybaz.func3, Ybaz.ntmps3
  go_wp2_with fail
  refine wp_build82 rfl ?_
  go_wp2_with fail
  refine (at_any w0.heap.size 6 a (.slice none 0 0) [] (fun _ => none) _ ha (new_paged w0)).mono ?_
  rintro e W1 ⟨b1, v1, vs1, f1, rfl, P1, hf1, -, hB1⟩
  obtain ⟨⟨u1, hu1⟩, hz1⟩ := P1.slot hf1 (page_facts a ha).2.1
  have HP1 := hide P1
  have HF1 := hide hf1
  have HB1 := hide hB1
  clear P1 hf1 hB1
  go_wp2_with fail
  refine (at_any w0.heap.size 6 b v1 vs1 f1 _ hb ((unhide HP1).written (unhide HF1) _)).mono ?_
  rintro e W2 ⟨b2, v2, vs2, f2, rfl, P2, hf2, hk2, hB2⟩
  obtain ⟨⟨u2, hu2⟩, hz2⟩ := P2.slot hf2 (page_facts b hb).2.1
  obtain ⟨hf3, hkb⟩ := hk2 _ _ (unhide HF1)
  have hE1 : w0.heap.size < b1 := ((unhide HP1).pages _ _ (unhide HF1)).1
  have hE2 : w0.heap.size < b2 := (P2.pages _ _ hf2).1
  have hxa : W2.cell? ⟨b1, plOf a, none⟩ = some (.int .i32 (wrap32 (v + 1))) := (World.cell?_of_block (a := ⟨b1, plOf a, none⟩) hkb).trans (World.cell?_setCell_same' _ _ _ (by rw [hu1]; rfl))
  have hxa3 : (W2.setCell ⟨b2, plOf b, none⟩ (.int .i32 (wrap32 (w + 1)))).cell? ⟨b1, plOf a, none⟩ = some (.int .i32 (wrap32 (v + 1))) := (World.cell?_setCell_other _ _ _ _ (slots_apart P2 ha hb hf3 hf2 (unhide hEQ))).trans hxa
  have hyb3 : (W2.setCell ⟨b2, plOf b, none⟩ (.int .i32 (wrap32 (w + 1)))).cell? ⟨b2, plOf b, none⟩ = some (.int .i32 (wrap32 (w + 1))) := World.cell?_setCell_same' _ _ _ (by rw [hu2]; rfl)
  have P3 := P2.written hf2 (c := plOf b) (.int .i32 (wrap32 (w + 1)))
  have hBel : Below w0.heap.size w0 (W2.setCell ⟨b2, plOf b, none⟩ (.int .i32 (wrap32 (w + 1)))) :=
    ((((Below.refl _ w0).alloc (Nat.le_refl _) _).trans ((unhide HB1).setCell (p := ⟨b1, plOf a, none⟩) (by show w0.heap.size ≤ b1; omega) _)).trans hB2).setCell (p := ⟨b2, plOf b, none⟩) (by show w0.heap.size ≤ b2; omega) _
  have HP3 := hide P3
  have HF3 := hide hf3
  have HF2 := hide hf2
  have HBL := hide hBel
  have HXA := hide hxa3
  have HYB := hide hyb3
  clear P2 hf2 hk2 hB2 hf3 hkb hxa P3 hBel hxa3 hyb3
  go_wp2_with fail
  generalize W2.setCell ⟨b2, plOf b, none⟩ (.int .i32 (wrap32 (w + 1))) = W3 at *
  refine (role_have w0.heap.size a b1 (wrap32 (v + 1)) v2 vs2 f2 W3 ha (unhide HP3) (unhide HF3) (unhide HXA) (unhide x0) v xb).mono ?_
  rintro e w' ⟨rfl, rfl⟩
  go_wp2_with fail
  refine (role_have w0.heap.size b b2 (wrap32 (w + 1)) v2 vs2 f2 W3 hb (unhide HP3) (unhide HF2) (unhide HYB) (unhide y0) w yb).mono ?_
  rintro e w' ⟨rfl, rfl⟩
  go_wp2_with fail
  refine (at_have w0.heap.size 6 a b1 v2 vs2 f2 W3 ha (unhide HP3) (unhide HF3)).mono ?_
  rintro e w' ⟨rfl, rfl⟩
  have hxa := unhide HXA
  go_wp2_with fail
  refine (at_have w0.heap.size 6 b b2 v2 vs2 f2 W3 hb (unhide HP3) (unhide HF2)).mono ?_
  rintro e w' ⟨rfl, rfl⟩
  have hyb := unhide HYB
  go_wp2_with fail
  refine (role_have w0.heap.size a b1 (wrap32 (v + 1)) v2 vs2 f2 W3 ha (unhide HP3) (unhide HF3) (unhide HXA) (unhide x0) v xb).mono ?_
  rintro e w' ⟨rfl, rfl⟩
  go_wp2_with fail
  go_ret
  exact ⟨rfl, unhide HBL⟩

set_option linter.unusedVariables false in
set_option maxRecDepth 100000 in
set_option maxHeartbeats 4000000 in
theorem law_1 (i j : Nat) (v w : Int) (hv0 : -2147483648 ≤ v) (hv1 : v ≤ 2147483647) (hw0 : -2147483648 ≤ w) (hw1 : w ≤ 2147483647) (hi : i ≤ 65535) (hj : j ≤ 65535) (c1 : v = -1) (c2 : w ≠ -1) (c3 : i % 4096 ≠ j % 4096) (w0 : World) :
    Calls Ybaz.prog 3 #[.int .u16 (i : Int), .int .i32 v, .int .u16 (j : Int), .int .i32 w] w0 fun e w' => e = .returned (.bool true) ∧ Below w0.heap.size w0 w' := by
  have d1 : (v == -1) = true := by simpa using c1
  have d2 : (w == -1) = false := by simpa using c2
  have ea : (i : Int) % 4096 = ((i % 4096 : Nat) : Int) := by omega
  have eb : (j : Int) % 4096 = ((j % 4096 : Nat) : Int) := by omega
  have ha : i % 4096 < 4096 := Nat.mod_lt _ (by omega)
  have hb : j % 4096 < 4096 := Nat.mod_lt _ (by omega)
  generalize i % 4096 = a at *
  generalize j % 4096 = b at *
  have d3 : ((a : Int) == (b : Int)) = false := by simp; omega
  have hEQ := hide c3
  clear c3
  have x0 : Hid ((1 : Int) ≠ 0) := hide (by decide)
  have y0 : Hid ((wrap32 (w + 1)) ≠ 0) := not0 hw0 hw1 c2
  have xb : Hid (wrap32 ((1 : Int) - 1) = 0) := back1
  have yb : Hid (wrap32 ((wrap32 (w + 1)) - 1) = w) := back32 hw0 hw1
  go_enter Ybaz.func3, Ybaz.ntmps3
  go_wp2_with fail
  refine wp_build82 rfl ?_
  go_wp2_with fail
  refine (at_any w0.heap.size 6 a (.slice none 0 0) [] (fun _ => none) _ ha (new_paged w0)).mono ?_
  rintro e W1 ⟨b1, v1, vs1, f1, rfl, P1, hf1, -, hB1⟩
  obtain ⟨⟨u1, hu1⟩, hz1⟩ := P1.slot hf1 (page_facts a ha).2.1
  have HP1 := hide P1
  have HF1 := hide hf1
  have HB1 := hide hB1
  clear P1 hf1 hB1
  go_wp2_with fail
  refine (at_any w0.heap.size 6 b v1 vs1 f1 _ hb ((unhide HP1).written (unhide HF1) _)).mono ?_
  rintro e W2 ⟨b2, v2, vs2, f2, rfl, P2, hf2, hk2, hB2⟩
  obtain ⟨⟨u2, hu2⟩, hz2⟩ := P2.slot hf2 (page_facts b hb).2.1
  obtain ⟨hf3, hkb⟩ := hk2 _ _ (unhide HF1)
  have hE1 : w0.heap.size < b1 := ((unhide HP1).pages _ _ (unhide HF1)).1
  have hE2 : w0.heap.size < b2 := (P2.pages _ _ hf2).1
  have hxa : W2.cell? ⟨b1, plOf a, none⟩ = some (.int .i32 (1 : Int)) := (World.cell?_of_block (a := ⟨b1, plOf a, none⟩) hkb).trans (World.cell?_setCell_same' _ _ _ (by rw [hu1]; rfl))
  have hxa3 : (W2.setCell ⟨b2, plOf b, none⟩ (.int .i32 (wrap32 (w + 1)))).cell? ⟨b1, plOf a, none⟩ = some (.int .i32 (1 : Int)) := (World.cell?_setCell_other _ _ _ _ (slots_apart P2 ha hb hf3 hf2 (unhide hEQ))).trans hxa
  have hyb3 : (W2.setCell ⟨b2, plOf b, none⟩ (.int .i32 (wrap32 (w + 1)))).cell? ⟨b2, plOf b, none⟩ = some (.int .i32 (wrap32 (w + 1))) := World.cell?_setCell_same' _ _ _ (by rw [hu2]; rfl)
  have P3 := P2.written hf2 (c := plOf b) (.int .i32 (wrap32 (w + 1)))
  have hBel : Below w0.heap.size w0 (W2.setCell ⟨b2, plOf b, none⟩ (.int .i32 (wrap32 (w + 1)))) :=
    ((((Below.refl _ w0).alloc (Nat.le_refl _) _).trans ((unhide HB1).setCell (p := ⟨b1, plOf a, none⟩) (by show w0.heap.size ≤ b1; omega) _)).trans hB2).setCell (p := ⟨b2, plOf b, none⟩) (by show w0.heap.size ≤ b2; omega) _
  have HP3 := hide P3
  have HF3 := hide hf3
  have HF2 := hide hf2
  have HBL := hide hBel
  have HXA := hide hxa3
  have HYB := hide hyb3
  clear P2 hf2 hk2 hB2 hf3 hkb hxa P3 hBel hxa3 hyb3
  go_wp2_with fail
  generalize W2.setCell ⟨b2, plOf b, none⟩ (.int .i32 (wrap32 (w + 1))) = W3 at *
  refine (role_have w0.heap.size a b1 (1 : Int) v2 vs2 f2 W3 ha (unhide HP3) (unhide HF3) (unhide HXA) (unhide x0) 0 xb).mono ?_
  rintro e w' ⟨rfl, rfl⟩
  go_wp2_with fail
  refine (role_have w0.heap.size b b2 (wrap32 (w + 1)) v2 vs2 f2 W3 hb (unhide HP3) (unhide HF2) (unhide HYB) (unhide y0) w yb).mono ?_
  rintro e w' ⟨rfl, rfl⟩
  go_wp2_with fail
  refine (at_have w0.heap.size 6 a b1 v2 vs2 f2 W3 ha (unhide HP3) (unhide HF3)).mono ?_
  rintro e w' ⟨rfl, rfl⟩
  have hxa := unhide HXA
  go_wp2_with fail
  refine (at_have w0.heap.size 6 b b2 v2 vs2 f2 W3 hb (unhide HP3) (unhide HF2)).mono ?_
  rintro e w' ⟨rfl, rfl⟩
  have hyb := unhide HYB
  go_wp2_with fail
  refine (role_have w0.heap.size a b1 (1 : Int) v2 vs2 f2 W3 ha (unhide HP3) (unhide HF3) (unhide HXA) (unhide x0) 0 xb).mono ?_
  rintro e w' ⟨rfl, rfl⟩
  go_wp2_with fail
  go_ret
  exact ⟨rfl, unhide HBL⟩

set_option linter.unusedVariables false in
set_option maxRecDepth 100000 in
set_option maxHeartbeats 4000000 in
theorem law_2 (i j : Nat) (v w : Int) (hv0 : -2147483648 ≤ v) (hv1 : v ≤ 2147483647) (hw0 : -2147483648 ≤ w) (hw1 : w ≤ 2147483647) (hi : i ≤ 65535) (hj : j ≤ 65535) (c1 : v ≠ -1) (c2 : w = -1) (c3 : i % 4096 ≠ j % 4096) (w0 : World) :
    Calls Ybaz.prog 3 #[.int .u16 (i : Int), .int .i32 v, .int .u16 (j : Int), .int .i32 w] w0 fun e w' => e = .returned (.bool true) ∧ Below w0.heap.size w0 w' := by
  have d1 : (v == -1) = false := by simpa using c1
  have d2 : (w == -1) = true := by simpa using c2
  have ea : (i : Int) % 4096 = ((i % 4096 : Nat) : Int) := by omega
  have eb : (j : Int) % 4096 = ((j % 4096 : Nat) : Int) := by omega
  have ha : i % 4096 < 4096 := Nat.mod_lt _ (by omega)
  have hb : j % 4096 < 4096 := Nat.mod_lt _ (by omega)
  generalize i % 4096 = a at *
  generalize j % 4096 = b at *
  have d3 : ((a : Int) == (b : Int)) = false := by simp; omega
  have hEQ := hide c3
  clear c3
  have x0 : Hid ((wrap32 (v + 1)) ≠ 0) := not0 hv0 hv1 c1
  have y0 : Hid ((1 : Int) ≠ 0) := hide (by decide)
  have xb : Hid (wrap32 ((wrap32 (v + 1)) - 1) = v) := back32 hv0 hv1
  have yb : Hid (wrap32 ((1 : Int) - 1) = 0) := back1
  go_enter Ybaz.func3, Ybaz.ntmps3
  go_wp2_with fail
  refine wp_build82 rfl ?_
  go_wp2_with fail
  refine (at_any w0.heap.size 6 a (.slice none 0 0) [] (fun _ => none) _ ha (new_paged w0)).mono ?_
  rintro e W1 ⟨b1, v1, vs1, f1, rfl, P1, hf1, -, hB1⟩
  obtain ⟨⟨u1, hu1⟩, hz1⟩ := P1.slot hf1 (page_facts a ha).2.1
  have HP1 := hide P1
  have HF1 := hide hf1
  have HB1 := hide hB1
  clear P1 hf1 hB1
  go_wp2_with fail
  refine (at_any w0.heap.size 6 b v1 vs1 f1 _ hb ((unhide HP1).written (unhide HF1) _)).mono ?_
  rintro e W2 ⟨b2, v2, vs2, f2, rfl, P2, hf2, hk2, hB2⟩
  obtain ⟨⟨u2, hu2⟩, hz2⟩ := P2.slot hf2 (page_facts b hb).2.1
  obtain ⟨hf3, hkb⟩ := hk2 _ _ (unhide HF1)
  have hE1 : w0.heap.size < b1 := ((unhide HP1).pages _ _ (unhide HF1)).1
  have hE2 : w0.heap.size < b2 := (P2.pages _ _ hf2).1
  have hxa : W2.cell? ⟨b1, plOf a, none⟩ = some (.int .i32 (wrap32 (v + 1))) := (World.cell?_of_block (a := ⟨b1, plOf a, none⟩) hkb).trans (World.cell?_setCell_same' _ _ _ (by rw [hu1]; rfl))
  have hxa3 : (W2.setCell ⟨b2, plOf b, none⟩ (.int .i32 (1 : Int))).cell? ⟨b1, plOf a, none⟩ = some (.int .i32 (wrap32 (v + 1))) := (World.cell?_setCell_other _ _ _ _ (slots_apart P2 ha hb hf3 hf2 (unhide hEQ))).trans hxa
  have hyb3 : (W2.setCell ⟨b2, plOf b, none⟩ (.int .i32 (1 : Int))).cell? ⟨b2, plOf b, none⟩ = some (.int .i32 (1 : Int)) := World.cell?_setCell_same' _ _ _ (by rw [hu2]; rfl)
  have P3 := P2.written hf2 (c := plOf b) (.int .i32 (1 : Int))
  have hBel : Below w0.heap.size w0 (W2.setCell ⟨b2, plOf b, none⟩ (.int .i32 (1 : Int))) :=
    ((((Below.refl _ w0).alloc (Nat.le_refl _) _).trans ((unhide HB1).setCell (p := ⟨b1, plOf a, none⟩) (by show w0.heap.size ≤ b1; omega) _)).trans hB2).setCell (p := ⟨b2, plOf b, none⟩) (by show w0.heap.size ≤ b2; omega) _
  have HP3 := hide P3
  have HF3 := hide hf3
  have HF2 := hide hf2
  have HBL := hide hBel
  have HXA := hide hxa3
  have HYB := hide hyb3
  clear P2 hf2 hk2 hB2 hf3 hkb hxa P3 hBel hxa3 hyb3
  go_wp2_with fail
  generalize W2.setCell ⟨b2, plOf b, none⟩ (.int .i32 (1 : Int)) = W3 at *
  refine (role_have w0.heap.size a b1 (wrap32 (v + 1)) v2 vs2 f2 W3 ha (unhide HP3) (unhide HF3) (unhide HXA) (unhide x0) v xb).mono ?_
  rintro e w' ⟨rfl, rfl⟩
  go_wp2_with fail
  refine (role_have w0.heap.size b b2 (1 : Int) v2 vs2 f2 W3 hb (unhide HP3) (unhide HF2) (unhide HYB) (unhide y0) 0 yb).mono ?_
  rintro e w' ⟨rfl, rfl⟩
  go_wp2_with fail
  refine (at_have w0.heap.size 6 a b1 v2 vs2 f2 W3 ha (unhide HP3) (unhide HF3)).mono ?_
  rintro e w' ⟨rfl, rfl⟩
  have hxa := unhide HXA
  go_wp2_with fail
  refine (at_have w0.heap.size 6 b b2 v2 vs2 f2 W3 hb (unhide HP3) (unhide HF2)).mono ?_
  rintro e w' ⟨rfl, rfl⟩
  have hyb := unhide HYB
  go_wp2_with fail
  refine (role_have w0.heap.size a b1 (wrap32 (v + 1)) v2 vs2 f2 W3 ha (unhide HP3) (unhide HF3) (unhide HXA) (unhide x0) v xb).mono ?_
  rintro e w' ⟨rfl, rfl⟩
  go_wp2_with fail
  go_ret
  exact ⟨rfl, unhide HBL⟩

set_option linter.unusedVariables false in
set_option maxRecDepth 100000 in
set_option maxHeartbeats 4000000 in
theorem law_3 (i j : Nat) (v w : Int) (hv0 : -2147483648 ≤ v) (hv1 : v ≤ 2147483647) (hw0 : -2147483648 ≤ w) (hw1 : w ≤ 2147483647) (hi : i ≤ 65535) (hj : j ≤ 65535) (c1 : v = -1) (c2 : w = -1) (c3 : i % 4096 ≠ j % 4096) (w0 : World) :
    Calls Ybaz.prog 3 #[.int .u16 (i : Int), .int .i32 v, .int .u16 (j : Int), .int .i32 w] w0 fun e w' => e = .returned (.bool true) ∧ Below w0.heap.size w0 w' := by
  have d1 : (v == -1) = true := by simpa using c1
  have d2 : (w == -1) = true := by simpa using c2
  have ea : (i : Int) % 4096 = ((i % 4096 : Nat) : Int) := by omega
  have eb : (j : Int) % 4096 = ((j % 4096 : Nat) : Int) := by omega
  have ha : i % 4096 < 4096 := Nat.mod_lt _ (by omega)
  have hb : j % 4096 < 4096 := Nat.mod_lt _ (by omega)
  generalize i % 4096 = a at *
  generalize j % 4096 = b at *
  have d3 : ((a : Int) == (b : Int)) = false := by simp; omega
  have hEQ := hide c3
  clear c3
  have x0 : Hid ((1 : Int) ≠ 0) := hide (by decide)
  have y0 : Hid ((1 : Int) ≠ 0) := hide (by decide)
  have xb : Hid (wrap32 ((1 : Int) - 1) = 0) := back1
  have yb : Hid (wrap32 ((1 : Int) - 1) = 0) := back1
  go_enter Ybaz.func3, Ybaz.ntmps3
  go_wp2_with fail
  refine wp_build82 rfl ?_
  go_wp2_with fail
  refine (at_any w0.heap.size 6 a (.slice none 0 0) [] (fun _ => none) _ ha (new_paged w0)).mono ?_
  rintro e W1 ⟨b1, v1, vs1, f1, rfl, P1, hf1, -, hB1⟩
  obtain ⟨⟨u1, hu1⟩, hz1⟩ := P1.slot hf1 (page_facts a ha).2.1
  have HP1 := hide P1
  have HF1 := hide hf1
  have HB1 := hide hB1
  clear P1 hf1 hB1
  go_wp2_with fail
  refine (at_any w0.heap.size 6 b v1 vs1 f1 _ hb ((unhide HP1).written (unhide HF1) _)).mono ?_
  rintro e W2 ⟨b2, v2, vs2, f2, rfl, P2, hf2, hk2, hB2⟩
  obtain ⟨⟨u2, hu2⟩, hz2⟩ := P2.slot hf2 (page_facts b hb).2.1
  obtain ⟨hf3, hkb⟩ := hk2 _ _ (unhide HF1)
  have hE1 : w0.heap.size < b1 := ((unhide HP1).pages _ _ (unhide HF1)).1
  have hE2 : w0.heap.size < b2 := (P2.pages _ _ hf2).1
  have hxa : W2.cell? ⟨b1, plOf a, none⟩ = some (.int .i32 (1 : Int)) := (World.cell?_of_block (a := ⟨b1, plOf a, none⟩) hkb).trans (World.cell?_setCell_same' _ _ _ (by rw [hu1]; rfl))
  have hxa3 : (W2.setCell ⟨b2, plOf b, none⟩ (.int .i32 (1 : Int))).cell? ⟨b1, plOf a, none⟩ = some (.int .i32 (1 : Int)) := (World.cell?_setCell_other _ _ _ _ (slots_apart P2 ha hb hf3 hf2 (unhide hEQ))).trans hxa
  have hyb3 : (W2.setCell ⟨b2, plOf b, none⟩ (.int .i32 (1 : Int))).cell? ⟨b2, plOf b, none⟩ = some (.int .i32 (1 : Int)) := World.cell?_setCell_same' _ _ _ (by rw [hu2]; rfl)
  have P3 := P2.written hf2 (c := plOf b) (.int .i32 (1 : Int))
  have hBel : Below w0.heap.size w0 (W2.setCell ⟨b2, plOf b, none⟩ (.int .i32 (1 : Int))) :=
    ((((Below.refl _ w0).alloc (Nat.le_refl _) _).trans ((unhide HB1).setCell (p := ⟨b1, plOf a, none⟩) (by show w0.heap.size ≤ b1; omega) _)).trans hB2).setCell (p := ⟨b2, plOf b, none⟩) (by show w0.heap.size ≤ b2; omega) _
  have HP3 := hide P3
  have HF3 := hide hf3
  have HF2 := hide hf2
  have HBL := hide hBel
  have HXA := hide hxa3
  have HYB := hide hyb3
  clear P2 hf2 hk2 hB2 hf3 hkb hxa P3 hBel hxa3 hyb3
  go_wp2_with fail
  generalize W2.setCell ⟨b2, plOf b, none⟩ (.int .i32 (1 : Int)) = W3 at *
  refine (role_have w0.heap.size a b1 (1 : Int) v2 vs2 f2 W3 ha (unhide HP3) (unhide HF3) (unhide HXA) (unhide x0) 0 xb).mono ?_
  rintro e w' ⟨rfl, rfl⟩
  go_wp2_with fail
  refine (role_have w0.heap.size b b2 (1 : Int) v2 vs2 f2 W3 hb (unhide HP3) (unhide HF2) (unhide HYB) (unhide y0) 0 yb).mono ?_
  rintro e w' ⟨rfl, rfl⟩
  go_wp2_with fail
  refine (at_have w0.heap.size 6 a b1 v2 vs2 f2 W3 ha (unhide HP3) (unhide HF3)).mono ?_
  rintro e w' ⟨rfl, rfl⟩
  have hxa := unhide HXA
  go_wp2_with fail
  refine (at_have w0.heap.size 6 b b2 v2 vs2 f2 W3 hb (unhide HP3) (unhide HF2)).mono ?_
  rintro e w' ⟨rfl, rfl⟩
  have hyb := unhide HYB
  go_wp2_with fail
  refine (role_have w0.heap.size a b1 (1 : Int) v2 vs2 f2 W3 ha (unhide HP3) (unhide HF3) (unhide HXA) (unhide x0) 0 xb).mono ?_
  rintro e w' ⟨rfl, rfl⟩
  go_wp2_with fail
  go_ret
  exact ⟨rfl, unhide HBL⟩

set_option linter.unusedVariables false in
set_option maxRecDepth 100000 in
set_option maxHeartbeats 4000000 in
theorem law_4 (i j : Nat) (v w : Int) (hv0 : -2147483648 ≤ v) (hv1 : v ≤ 2147483647) (hw0 : -2147483648 ≤ w) (hw1 : w ≤ 2147483647) (hi : i ≤ 65535) (hj : j ≤ 65535) (c1 : v ≠ -1) (c2 : w ≠ -1) (c3 : i % 4096 = j % 4096) (w0 : World) :
    Calls Ybaz.prog 3 #[.int .u16 (i : Int), .int .i32 v, .int .u16 (j : Int), .int .i32 w] w0 fun e w' => e = .returned (.bool true) ∧ Below w0.heap.size w0 w' := by
  have d1 : (v == -1) = false := by simpa using c1
  have d2 : (w == -1) = false := by simpa using c2
  have ea : (i : Int) % 4096 = ((i % 4096 : Nat) : Int) := by omega
  have eb : (j : Int) % 4096 = ((j % 4096 : Nat) : Int) := by omega
  have ha : i % 4096 < 4096 := Nat.mod_lt _ (by omega)
  have hb : j % 4096 < 4096 := Nat.mod_lt _ (by omega)
  generalize i % 4096 = a at *
  generalize j % 4096 = b at *
  have d3 : ((a : Int) == (b : Int)) = true := by simp; omega
  have hEQ := hide c3
  clear c3
  have x0 : Hid ((wrap32 (v + 1)) ≠ 0) := not0 hv0 hv1 c1
  have y0 : Hid ((wrap32 (v + 1)) ≠ 0) := not0 hv0 hv1 c1
  have xb : Hid (wrap32 ((wrap32 (v + 1)) - 1) = v) := back32 hv0 hv1
  have yb : Hid (wrap32 ((wrap32 (v + 1)) - 1) = v) := back32 hv0 hv1
  go_enter Ybaz.func3, Ybaz.ntmps3
  go_wp2_with fail
  refine wp_build82 rfl ?_
  go_wp2_with fail
  refine (at_any w0.heap.size 6 a (.slice none 0 0) [] (fun _ => none) _ ha (new_paged w0)).mono ?_
  rintro e W1 ⟨b1, v1, vs1, f1, rfl, P1, hf1, -, hB1⟩
  obtain ⟨⟨u1, hu1⟩, hz1⟩ := P1.slot hf1 (page_facts a ha).2.1
  have HP1 := hide P1
  have HF1 := hide hf1
  have HB1 := hide hB1
  clear P1 hf1 hB1
  go_wp2_with fail
  refine (at_any w0.heap.size 6 b v1 vs1 f1 _ hb ((unhide HP1).written (unhide HF1) _)).mono ?_
  rintro e W2 ⟨b2, v2, vs2, f2, rfl, P2, hf2, hk2, hB2⟩
  obtain ⟨⟨u2, hu2⟩, hz2⟩ := P2.slot hf2 (page_facts b hb).2.1
  obtain ⟨hf3, hkb⟩ := hk2 _ _ (unhide HF1)
  have hE1 : w0.heap.size < b1 := ((unhide HP1).pages _ _ (unhide HF1)).1
  have hE2 : w0.heap.size < b2 := (P2.pages _ _ hf2).1
  have hxa : W2.cell? ⟨b1, plOf a, none⟩ = some (.int .i32 (wrap32 (v + 1))) := (World.cell?_of_block (a := ⟨b1, plOf a, none⟩) hkb).trans (World.cell?_setCell_same' _ _ _ (by rw [hu1]; rfl))
  have hxa3 : (W2.setCell ⟨b2, plOf b, none⟩ (.int .i32 (wrap32 (v + 1)))).cell? ⟨b1, plOf a, none⟩ = some (.int .i32 (wrap32 (v + 1))) := (by obtain rfl : a = b := unhide hEQ; obtain rfl : b1 = b2 := Option.some.inj (hf3.symm.trans hf2); exact World.cell?_setCell_same' _ _ _ (by rw [hu2]; rfl))
  have hyb3 : (W2.setCell ⟨b2, plOf b, none⟩ (.int .i32 (wrap32 (v + 1)))).cell? ⟨b2, plOf b, none⟩ = some (.int .i32 (wrap32 (v + 1))) := World.cell?_setCell_same' _ _ _ (by rw [hu2]; rfl)
  have P3 := P2.written hf2 (c := plOf b) (.int .i32 (wrap32 (v + 1)))
  have hBel : Below w0.heap.size w0 (W2.setCell ⟨b2, plOf b, none⟩ (.int .i32 (wrap32 (v + 1)))) :=
    ((((Below.refl _ w0).alloc (Nat.le_refl _) _).trans ((unhide HB1).setCell (p := ⟨b1, plOf a, none⟩) (by show w0.heap.size ≤ b1; omega) _)).trans hB2).setCell (p := ⟨b2, plOf b, none⟩) (by show w0.heap.size ≤ b2; omega) _
  have HP3 := hide P3
  have HF3 := hide hf3
  have HF2 := hide hf2
  have HBL := hide hBel
  have HXA := hide hxa3
  have HYB := hide hyb3
  clear P2 hf2 hk2 hB2 hf3 hkb hxa P3 hBel hxa3 hyb3
  go_wp2_with fail
  generalize W2.setCell ⟨b2, plOf b, none⟩ (.int .i32 (wrap32 (v + 1))) = W3 at *
  refine (role_have w0.heap.size a b1 (wrap32 (v + 1)) v2 vs2 f2 W3 ha (unhide HP3) (unhide HF3) (unhide HXA) (unhide x0) v xb).mono ?_
  rintro e w' ⟨rfl, rfl⟩
  go_wp2_with fail
  refine (role_have w0.heap.size b b2 (wrap32 (v + 1)) v2 vs2 f2 W3 hb (unhide HP3) (unhide HF2) (unhide HYB) (unhide y0) v yb).mono ?_
  rintro e w' ⟨rfl, rfl⟩
  go_wp2_with fail
  refine (at_have w0.heap.size 6 a b1 v2 vs2 f2 W3 ha (unhide HP3) (unhide HF3)).mono ?_
  rintro e w' ⟨rfl, rfl⟩
  have hxa := unhide HXA
  go_wp2_with fail
  refine (at_have w0.heap.size 6 b b2 v2 vs2 f2 W3 hb (unhide HP3) (unhide HF2)).mono ?_
  rintro e w' ⟨rfl, rfl⟩
  have hyb := unhide HYB
  go_wp2_with fail
  refine (role_have w0.heap.size a b1 (wrap32 (v + 1)) v2 vs2 f2 W3 ha (unhide HP3) (unhide HF3) (unhide HXA) (unhide x0) v xb).mono ?_
  rintro e w' ⟨rfl, rfl⟩
  go_wp2_with fail
  go_ret
  exact ⟨rfl, unhide HBL⟩

set_option linter.unusedVariables false in
set_option maxRecDepth 100000 in
set_option maxHeartbeats 4000000 in
theorem law_5 (i j : Nat) (v w : Int) (hv0 : -2147483648 ≤ v) (hv1 : v ≤ 2147483647) (hw0 : -2147483648 ≤ w) (hw1 : w ≤ 2147483647) (hi : i ≤ 65535) (hj : j ≤ 65535) (c1 : v = -1) (c2 : w ≠ -1) (c3 : i % 4096 = j % 4096) (w0 : World) :
    Calls Ybaz.prog 3 #[.int .u16 (i : Int), .int .i32 v, .int .u16 (j : Int), .int .i32 w] w0 fun e w' => e = .returned (.bool true) ∧ Below w0.heap.size w0 w' := by
  have d1 : (v == -1) = true := by simpa using c1
  have d2 : (w == -1) = false := by simpa using c2
  have ea : (i : Int) % 4096 = ((i % 4096 : Nat) : Int) := by omega
  have eb : (j : Int) % 4096 = ((j % 4096 : Nat) : Int) := by omega
  have ha : i % 4096 < 4096 := Nat.mod_lt _ (by omega)
  have hb : j % 4096 < 4096 := Nat.mod_lt _ (by omega)
  generalize i % 4096 = a at *
  generalize j % 4096 = b at *
  have d3 : ((a : Int) == (b : Int)) = true := by simp; omega
  have hEQ := hide c3
  clear c3
  have x0 : Hid ((1 : Int) ≠ 0) := hide (by decide)
  have y0 : Hid ((1 : Int) ≠ 0) := hide (by decide)
  have xb : Hid (wrap32 ((1 : Int) - 1) = 0) := back1
  have yb : Hid (wrap32 ((1 : Int) - 1) = 0) := back1
  go_enter Ybaz.func3, Ybaz.ntmps3
  go_wp2_with fail
  refine wp_build82 rfl ?_
  go_wp2_with fail
  refine (at_any w0.heap.size 6 a (.slice none 0 0) [] (fun _ => none) _ ha (new_paged w0)).mono ?_
  rintro e W1 ⟨b1, v1, vs1, f1, rfl, P1, hf1, -, hB1⟩
  obtain ⟨⟨u1, hu1⟩, hz1⟩ := P1.slot hf1 (page_facts a ha).2.1
  have HP1 := hide P1
  have HF1 := hide hf1
  have HB1 := hide hB1
  clear P1 hf1 hB1
  go_wp2_with fail
  refine (at_any w0.heap.size 6 b v1 vs1 f1 _ hb ((unhide HP1).written (unhide HF1) _)).mono ?_
  rintro e W2 ⟨b2, v2, vs2, f2, rfl, P2, hf2, hk2, hB2⟩
  obtain ⟨⟨u2, hu2⟩, hz2⟩ := P2.slot hf2 (page_facts b hb).2.1
  obtain ⟨hf3, hkb⟩ := hk2 _ _ (unhide HF1)
  have hE1 : w0.heap.size < b1 := ((unhide HP1).pages _ _ (unhide HF1)).1
  have hE2 : w0.heap.size < b2 := (P2.pages _ _ hf2).1
  have hxa : W2.cell? ⟨b1, plOf a, none⟩ = some (.int .i32 (1 : Int)) := (World.cell?_of_block (a := ⟨b1, plOf a, none⟩) hkb).trans (World.cell?_setCell_same' _ _ _ (by rw [hu1]; rfl))
  have hxa3 : (W2.setCell ⟨b2, plOf b, none⟩ (.int .i32 (1 : Int))).cell? ⟨b1, plOf a, none⟩ = some (.int .i32 (1 : Int)) := (by obtain rfl : a = b := unhide hEQ; obtain rfl : b1 = b2 := Option.some.inj (hf3.symm.trans hf2); exact World.cell?_setCell_same' _ _ _ (by rw [hu2]; rfl))
  have hyb3 : (W2.setCell ⟨b2, plOf b, none⟩ (.int .i32 (1 : Int))).cell? ⟨b2, plOf b, none⟩ = some (.int .i32 (1 : Int)) := World.cell?_setCell_same' _ _ _ (by rw [hu2]; rfl)
  have P3 := P2.written hf2 (c := plOf b) (.int .i32 (1 : Int))
  have hBel : Below w0.heap.size w0 (W2.setCell ⟨b2, plOf b, none⟩ (.int .i32 (1 : Int))) :=
    ((((Below.refl _ w0).alloc (Nat.le_refl _) _).trans ((unhide HB1).setCell (p := ⟨b1, plOf a, none⟩) (by show w0.heap.size ≤ b1; omega) _)).trans hB2).setCell (p := ⟨b2, plOf b, none⟩) (by show w0.heap.size ≤ b2; omega) _
  have HP3 := hide P3
  have HF3 := hide hf3
  have HF2 := hide hf2
  have HBL := hide hBel
  have HXA := hide hxa3
  have HYB := hide hyb3
  clear P2 hf2 hk2 hB2 hf3 hkb hxa P3 hBel hxa3 hyb3
  go_wp2_with fail
  generalize W2.setCell ⟨b2, plOf b, none⟩ (.int .i32 (1 : Int)) = W3 at *
  refine (role_have w0.heap.size a b1 (1 : Int) v2 vs2 f2 W3 ha (unhide HP3) (unhide HF3) (unhide HXA) (unhide x0) 0 xb).mono ?_
  rintro e w' ⟨rfl, rfl⟩
  go_wp2_with fail
  refine (role_have w0.heap.size b b2 (1 : Int) v2 vs2 f2 W3 hb (unhide HP3) (unhide HF2) (unhide HYB) (unhide y0) 0 yb).mono ?_
  rintro e w' ⟨rfl, rfl⟩
  go_wp2_with fail
  refine (at_have w0.heap.size 6 a b1 v2 vs2 f2 W3 ha (unhide HP3) (unhide HF3)).mono ?_
  rintro e w' ⟨rfl, rfl⟩
  have hxa := unhide HXA
  go_wp2_with fail
  refine (at_have w0.heap.size 6 b b2 v2 vs2 f2 W3 hb (unhide HP3) (unhide HF2)).mono ?_
  rintro e w' ⟨rfl, rfl⟩
  have hyb := unhide HYB
  go_wp2_with fail
  refine (role_have w0.heap.size a b1 (1 : Int) v2 vs2 f2 W3 ha (unhide HP3) (unhide HF3) (unhide HXA) (unhide x0) 0 xb).mono ?_
  rintro e w' ⟨rfl, rfl⟩
  go_wp2_with fail
  go_ret
  exact ⟨rfl, unhide HBL⟩

set_option linter.unusedVariables false in
set_option maxRecDepth 100000 in
set_option maxHeartbeats 4000000 in
theorem law_6 (i j : Nat) (v w : Int) (hv0 : -2147483648 ≤ v) (hv1 : v ≤ 2147483647) (hw0 : -2147483648 ≤ w) (hw1 : w ≤ 2147483647) (hi : i ≤ 65535) (hj : j ≤ 65535) (c1 : v ≠ -1) (c2 : w = -1) (c3 : i % 4096 = j % 4096) (w0 : World) :
    Calls Ybaz.prog 3 #[.int .u16 (i : Int), .int .i32 v, .int .u16 (j : Int), .int .i32 w] w0 fun e w' => e = .returned (.bool true) ∧ Below w0.heap.size w0 w' := by
  have d1 : (v == -1) = false := by simpa using c1
  have d2 : (w == -1) = true := by simpa using c2
  have ea : (i : Int) % 4096 = ((i % 4096 : Nat) : Int) := by omega
  have eb : (j : Int) % 4096 = ((j % 4096 : Nat) : Int) := by omega
  have ha : i % 4096 < 4096 := Nat.mod_lt _ (by omega)
  have hb : j % 4096 < 4096 := Nat.mod_lt _ (by omega)
  generalize i % 4096 = a at *
  generalize j % 4096 = b at *
  have d3 : ((a : Int) == (b : Int)) = true := by simp; omega
  have hEQ := hide c3
  clear c3
  have x0 : Hid ((wrap32 (v + 1)) ≠ 0) := not0 hv0 hv1 c1
  have y0 : Hid ((wrap32 (v + 1)) ≠ 0) := not0 hv0 hv1 c1
  have xb : Hid (wrap32 ((wrap32 (v + 1)) - 1) = v) := back32 hv0 hv1
  have yb : Hid (wrap32 ((wrap32 (v + 1)) - 1) = v) := back32 hv0 hv1
  go_enter Ybaz.func3, Ybaz.ntmps3
  go_wp2_with fail
  refine wp_build82 rfl ?_
  go_wp2_with fail
  refine (at_any w0.heap.size 6 a (.slice none 0 0) [] (fun _ => none) _ ha (new_paged w0)).mono ?_
  rintro e W1 ⟨b1, v1, vs1, f1, rfl, P1, hf1, -, hB1⟩
  obtain ⟨⟨u1, hu1⟩, hz1⟩ := P1.slot hf1 (page_facts a ha).2.1
  have HP1 := hide P1
  have HF1 := hide hf1
  have HB1 := hide hB1
  clear P1 hf1 hB1
  go_wp2_with fail
  refine (at_any w0.heap.size 6 b v1 vs1 f1 _ hb ((unhide HP1).written (unhide HF1) _)).mono ?_
  rintro e W2 ⟨b2, v2, vs2, f2, rfl, P2, hf2, hk2, hB2⟩
  obtain ⟨⟨u2, hu2⟩, hz2⟩ := P2.slot hf2 (page_facts b hb).2.1
  obtain ⟨hf3, hkb⟩ := hk2 _ _ (unhide HF1)
  have hE1 : w0.heap.size < b1 := ((unhide HP1).pages _ _ (unhide HF1)).1
  have hE2 : w0.heap.size < b2 := (P2.pages _ _ hf2).1
  have hxa : W2.cell? ⟨b1, plOf a, none⟩ = some (.int .i32 (wrap32 (v + 1))) := (World.cell?_of_block (a := ⟨b1, plOf a, none⟩) hkb).trans (World.cell?_setCell_same' _ _ _ (by rw [hu1]; rfl))
  have hxa3 : (W2.setCell ⟨b2, plOf b, none⟩ (.int .i32 (wrap32 (v + 1)))).cell? ⟨b1, plOf a, none⟩ = some (.int .i32 (wrap32 (v + 1))) := (by obtain rfl : a = b := unhide hEQ; obtain rfl : b1 = b2 := Option.some.inj (hf3.symm.trans hf2); exact World.cell?_setCell_same' _ _ _ (by rw [hu2]; rfl))
  have hyb3 : (W2.setCell ⟨b2, plOf b, none⟩ (.int .i32 (wrap32 (v + 1)))).cell? ⟨b2, plOf b, none⟩ = some (.int .i32 (wrap32 (v + 1))) := World.cell?_setCell_same' _ _ _ (by rw [hu2]; rfl)
  have P3 := P2.written hf2 (c := plOf b) (.int .i32 (wrap32 (v + 1)))
  have hBel : Below w0.heap.size w0 (W2.setCell ⟨b2, plOf b, none⟩ (.int .i32 (wrap32 (v + 1)))) :=
    ((((Below.refl _ w0).alloc (Nat.le_refl _) _).trans ((unhide HB1).setCell (p := ⟨b1, plOf a, none⟩) (by show w0.heap.size ≤ b1; omega) _)).trans hB2).setCell (p := ⟨b2, plOf b, none⟩) (by show w0.heap.size ≤ b2; omega) _
  have HP3 := hide P3
  have HF3 := hide hf3
  have HF2 := hide hf2
  have HBL := hide hBel
  have HXA := hide hxa3
  have HYB := hide hyb3
  clear P2 hf2 hk2 hB2 hf3 hkb hxa P3 hBel hxa3 hyb3
  go_wp2_with fail
  generalize W2.setCell ⟨b2, plOf b, none⟩ (.int .i32 (wrap32 (v + 1))) = W3 at *
  refine (role_have w0.heap.size a b1 (wrap32 (v + 1)) v2 vs2 f2 W3 ha (unhide HP3) (unhide HF3) (unhide HXA) (unhide x0) v xb).mono ?_
  rintro e w' ⟨rfl, rfl⟩
  go_wp2_with fail
  refine (role_have w0.heap.size b b2 (wrap32 (v + 1)) v2 vs2 f2 W3 hb (unhide HP3) (unhide HF2) (unhide HYB) (unhide y0) v yb).mono ?_
  rintro e w' ⟨rfl, rfl⟩
  go_wp2_with fail
  refine (at_have w0.heap.size 6 a b1 v2 vs2 f2 W3 ha (unhide HP3) (unhide HF3)).mono ?_
  rintro e w' ⟨rfl, rfl⟩
  have hxa := unhide HXA
  go_wp2_with fail
  refine (at_have w0.heap.size 6 b b2 v2 vs2 f2 W3 hb (unhide HP3) (unhide HF2)).mono ?_
  rintro e w' ⟨rfl, rfl⟩
  have hyb := unhide HYB
  go_wp2_with fail
  refine (role_have w0.heap.size a b1 (wrap32 (v + 1)) v2 vs2 f2 W3 ha (unhide HP3) (unhide HF3) (unhide HXA) (unhide x0) v xb).mono ?_
  rintro e w' ⟨rfl, rfl⟩
  go_wp2_with fail
  go_ret
  exact ⟨rfl, unhide HBL⟩

set_option linter.unusedVariables false in
set_option maxRecDepth 100000 in
set_option maxHeartbeats 4000000 in
theorem law_7 (i j : Nat) (v w : Int) (hv0 : -2147483648 ≤ v) (hv1 : v ≤ 2147483647) (hw0 : -2147483648 ≤ w) (hw1 : w ≤ 2147483647) (hi : i ≤ 65535) (hj : j ≤ 65535) (c1 : v = -1) (c2 : w = -1) (c3 : i % 4096 = j % 4096) (w0 : World) :
    Calls Ybaz.prog 3 #[.int .u16 (i : Int), .int .i32 v, .int .u16 (j : Int), .int .i32 w] w0 fun e w' => e = .returned (.bool true) ∧ Below w0.heap.size w0 w' := by
  have d1 : (v == -1) = true := by simpa using c1
  have d2 : (w == -1) = true := by simpa using c2
  have ea : (i : Int) % 4096 = ((i % 4096 : Nat) : Int) := by omega
  have eb : (j : Int) % 4096 = ((j % 4096 : Nat) : Int) := by omega
  have ha : i % 4096 < 4096 := Nat.mod_lt _ (by omega)
  have hb : j % 4096 < 4096 := Nat.mod_lt _ (by omega)
  generalize i % 4096 = a at *
  generalize j % 4096 = b at *
  have d3 : ((a : Int) == (b : Int)) = true := by simp; omega
  have hEQ := hide c3
  clear c3
  have x0 : Hid ((1 : Int) ≠ 0) := hide (by decide)
  have y0 : Hid ((1 : Int) ≠ 0) := hide (by decide)
  have xb : Hid (wrap32 ((1 : Int) - 1) = 0) := back1
  have yb : Hid (wrap32 ((1 : Int) - 1) = 0) := back1
  go_enter Ybaz.func3, Ybaz.ntmps3
  go_wp2_with fail
  refine wp_build82 rfl ?_
  go_wp2_with fail
  refine (at_any w0.heap.size 6 a (.slice none 0 0) [] (fun _ => none) _ ha (new_paged w0)).mono ?_
  rintro e W1 ⟨b1, v1, vs1, f1, rfl, P1, hf1, -, hB1⟩
  obtain ⟨⟨u1, hu1⟩, hz1⟩ := P1.slot hf1 (page_facts a ha).2.1
  have HP1 := hide P1
  have HF1 := hide hf1
  have HB1 := hide hB1
  clear P1 hf1 hB1
  go_wp2_with fail
  refine (at_any w0.heap.size 6 b v1 vs1 f1 _ hb ((unhide HP1).written (unhide HF1) _)).mono ?_
  rintro e W2 ⟨b2, v2, vs2, f2, rfl, P2, hf2, hk2, hB2⟩
  obtain ⟨⟨u2, hu2⟩, hz2⟩ := P2.slot hf2 (page_facts b hb).2.1
  obtain ⟨hf3, hkb⟩ := hk2 _ _ (unhide HF1)
  have hE1 : w0.heap.size < b1 := ((unhide HP1).pages _ _ (unhide HF1)).1
  have hE2 : w0.heap.size < b2 := (P2.pages _ _ hf2).1
  have hxa : W2.cell? ⟨b1, plOf a, none⟩ = some (.int .i32 (1 : Int)) := (World.cell?_of_block (a := ⟨b1, plOf a, none⟩) hkb).trans (World.cell?_setCell_same' _ _ _ (by rw [hu1]; rfl))
  have hxa3 : (W2.setCell ⟨b2, plOf b, none⟩ (.int .i32 (1 : Int))).cell? ⟨b1, plOf a, none⟩ = some (.int .i32 (1 : Int)) := (by obtain rfl : a = b := unhide hEQ; obtain rfl : b1 = b2 := Option.some.inj (hf3.symm.trans hf2); exact World.cell?_setCell_same' _ _ _ (by rw [hu2]; rfl))
  have hyb3 : (W2.setCell ⟨b2, plOf b, none⟩ (.int .i32 (1 : Int))).cell? ⟨b2, plOf b, none⟩ = some (.int .i32 (1 : Int)) := World.cell?_setCell_same' _ _ _ (by rw [hu2]; rfl)
  have P3 := P2.written hf2 (c := plOf b) (.int .i32 (1 : Int))
  have hBel : Below w0.heap.size w0 (W2.setCell ⟨b2, plOf b, none⟩ (.int .i32 (1 : Int))) :=
    ((((Below.refl _ w0).alloc (Nat.le_refl _) _).trans ((unhide HB1).setCell (p := ⟨b1, plOf a, none⟩) (by show w0.heap.size ≤ b1; omega) _)).trans hB2).setCell (p := ⟨b2, plOf b, none⟩) (by show w0.heap.size ≤ b2; omega) _
  have HP3 := hide P3
  have HF3 := hide hf3
  have HF2 := hide hf2
  have HBL := hide hBel
  have HXA := hide hxa3
  have HYB := hide hyb3
  clear P2 hf2 hk2 hB2 hf3 hkb hxa P3 hBel hxa3 hyb3
  go_wp2_with fail
  generalize W2.setCell ⟨b2, plOf b, none⟩ (.int .i32 (1 : Int)) = W3 at *
  refine (role_have w0.heap.size a b1 (1 : Int) v2 vs2 f2 W3 ha (unhide HP3) (unhide HF3) (unhide HXA) (unhide x0) 0 xb).mono ?_
  rintro e w' ⟨rfl, rfl⟩
  go_wp2_with fail
  refine (role_have w0.heap.size b b2 (1 : Int) v2 vs2 f2 W3 hb (unhide HP3) (unhide HF2) (unhide HYB) (unhide y0) 0 yb).mono ?_
  rintro e w' ⟨rfl, rfl⟩
  go_wp2_with fail
  refine (at_have w0.heap.size 6 a b1 v2 vs2 f2 W3 ha (unhide HP3) (unhide HF3)).mono ?_
  rintro e w' ⟨rfl, rfl⟩
  have hxa := unhide HXA
  go_wp2_with fail
  refine (at_have w0.heap.size 6 b b2 v2 vs2 f2 W3 hb (unhide HP3) (unhide HF2)).mono ?_
  rintro e w' ⟨rfl, rfl⟩
  have hyb := unhide HYB
  go_wp2_with fail
  refine (role_have w0.heap.size a b1 (1 : Int) v2 vs2 f2 W3 ha (unhide HP3) (unhide HF3) (unhide HXA) (unhide x0) 0 xb).mono ?_
  rintro e w' ⟨rfl, rfl⟩
  go_wp2_with fail
  go_ret
  exact ⟨rfl, unhide HBL⟩

end Go.Proofs.YbulkbsdsGreat
