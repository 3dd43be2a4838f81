/-
  The walk of zzs3424cbuild.
-/
import Derived.Test.YbulkbrwsSlot
import Derived.Test.YbulkbrwsClone
import Derived.Deep.Upon
namespace Go.Proofs.Ybulkbrws
open Go.ChangeShapes Go.WideShapes Go.ChangeAt Go.RowKit

section
variable {P : Program} {ops : Array Oper} {rest : List Oper} {o : Oper} {a : Act} {w : World} {Q : Exit → Act → World → Prop}
theorem wpList_build_run' (hg : o.guard = none) (t : TypeId) (parts : Array (Nat × Operand)) (hop : o.op = .build t parts) (vs : Array (Nat × Value)) (hp : (parts.map fun (i, x) => (i, a.eval x)) = vs) {v : Value} {w' : World} (hr : (Instr.build t vs).run P w = .ok v w') (h : wpList P ops Q rest (a.put o.dst v) w') : wpList P ops Q (o :: rest) a w :=
  wpList_build_run hg t parts hop (by rw [hp]; exact hr) h
end

theorem Chan.run {w : World} {G : Nat} {e : ByteArray} {KA KB : Array Value} {g0 g1 : Value} (h : Chan w G e KA KB g0 g1) (b : Int) (o : Nat) (ho : o + 32 ≤ 73) :
    (storeCells ⟨G, o, none⟩ (KC b).toList).run Yba.prog w = .ok () (w.setCells G o (KC b).toList) := by
  have hl : (KC b).toList.length = 32 := by rw [Array.length_toList, KC_size]
  have := run_storeCells_cells (P := Yba.prog) G o (KC b).toList 0 w (fun j hj => (h.there o 32 ho j (by omega)).1) (fun j hj => (h.there o 32 ho j (by omega)).2) (fun v hv => (Array.all_eq_true_iff_forall_mem.1 (KC_one b)) v (by simpa using hv))
  exact this
theorem Chan.drew {w : World} {G : Nat} {e : ByteArray} {KA KB : Array Value} {g0 g1 : Value} (h : Chan w G e KA KB g0 g1) : Chan w.drew G e KA KB g0 g1 := h.below (Below.refl _ _).drew

/-- The struct that came in. -/
abbrev IN (a b s : Int) (a0 : Option Addr) (n0 c0 : Nat) (a1 : Option Addr) (n1 c1 : Nat) (e : ByteArray) : Array Value :=
  #[.int .u8 a, .int .u8 b, .int .u8 s, .slice a0 n0 c0, .slice a1 n1 c1, .string e]

/-- How far the making has come: the argument's box, the result's variable, the channel. -/
def St (w W : World) (inn : Array Value) (e : ByteArray) (KA KB : Array Value) (g0 g1 : Value) : Prop :=
  W.heap[w.heap.size]? = some (.cells inn 24 (0, 0)) ∧ W.heap[w.heap.size + 1]? = some (.cells Z32 27 (0, 0)) ∧ Chan W (w.heap.size + 1 + 1) e KA KB g0 g1 ∧ Below w.heap.size w W

section
variable {w W W' : World} {inn : Array Value} {e : ByteArray} {KA KB : Array Value} {g0 g1 : Value}
theorem St.lt (h : St w W inn e KA KB g0 g1) : w.heap.size + 1 + 1 < W.heap.size := h.2.2.1.lt
theorem St.below (h : St w W inn e KA KB g0 g1) (hb : Below W.heap.size W W') : St w W' inn e KA KB g0 g1 := by
  have := h.lt
  exact ⟨(hb.block _ (by omega)).trans h.1, (hb.block _ (by omega)).trans h.2.1, h.2.2.1.below hb, h.2.2.2.trans (hb.mono (by omega))⟩
theorem St.drew (h : St w W inn e KA KB g0 g1) : St w W.drew inn e KA KB g0 g1 := h.below (Below.refl _ _).drew
theorem St.cell (h : St w W inn e KA KB g0 g1) (i : Nat) (v : Value) (hv : inn[i]? = some v) : W.cell? ⟨w.heap.size, i, none⟩ = some v := by
  rw [cell_of_row W _ _ _ 24 (0, 0) h.1, hv]
theorem below_cells {B g : Nat} (hg : B ≤ g) : ∀ (vs : List Value) (o : Nat) {a w : World}, Below B a w → Below B a (w.setCells g o vs)
  | [], _, _, _, h => h
  | v :: r, o, _, _, h => below_cells hg r (o + 1) (h.setCell (p := ⟨g, o, none⟩) hg v)
theorem St.setCells (h : St w W inn e KA KB g0 g1) (o : Nat) (vs : List Value) {KA' KB' : Array Value} {g0' g1' : Value} (hC : Chan (W.setCells (w.heap.size + 1 + 1) o vs) (w.heap.size + 1 + 1) e KA' KB' g0' g1') : St w (W.setCells (w.heap.size + 1 + 1) o vs) inn e KA' KB' g0' g1' := by
  have := h.lt
  exact ⟨(World.heap_setCells_other W _ o vs (by omega) (by omega)).trans h.1, (World.heap_setCells_other W _ o vs (by omega) (by omega)).trans h.2.1, hC, below_cells (by omega) vs o h.2.2.2⟩
theorem St.setA (h : St w W inn e KA KB g0 g1) (b : Int) : St w (W.setCells (w.heap.size + 1 + 1) 5 (KC b).toList) inn e (KC b) KB g0 g1 := h.setCells 5 _ (h.2.2.1.setA _ (KC_size b))
theorem St.setB (h : St w W inn e KA KB g0 g1) (b : Int) : St w (W.setCells (w.heap.size + 1 + 1) 37 (KC b).toList) inn e KA (KC b) g0 g1 := h.setCells 37 _ (h.2.2.1.setB _ (KC_size b))
theorem St.set0 (h : St w W inn e KA KB g0 g1) (v : Value) : St w (W.setCell ⟨w.heap.size + 1 + 1, 69, none⟩ v) inn e KA KB v g1 := h.setCells 69 [v] (h.2.2.1.set0 v)
theorem St.set1 (h : St w W inn e KA KB g0 g1) (v : Value) : St w (W.setCell ⟨w.heap.size + 1 + 1, 70, none⟩ v) inn e KA KB g0 v := h.setCells 70 [v] (h.2.2.1.set1 v)
end

theorem start_st (w : World) (inn : Array Value) (e : ByteArray) : St w (((w.alloc (.cells inn 24)).alloc (.cells Z32 27)).alloc (.cells (CH e Z32 Z32 (.slice none 0 0) (.slice none 0 0)) 41)) inn e Z32 Z32 (.slice none 0 0) (.slice none 0 0) := by
  refine ⟨?_, ?_, Chan.of_block ?_ rfl rfl, (((Below.refl _ _).alloc (Nat.le_refl _) _).alloc (by simp) _).alloc (by simp; omega) _⟩
  · rw [Below.heap_alloc _ _ _ (by simp; omega)]; exact heap_alloc2_old w _ _
  · rw [Below.heap_alloc _ _ _ (by simp)]; exact heap_alloc2_new w _ _
  · have := heap_alloc_new ((w.alloc (.cells inn 24)).alloc (.cells Z32 27)) (.cells (CH e Z32 Z32 (.slice none 0 0) (.slice none 0 0)) 41)
    simpa using this

theorem SRow.setCell {w : World} {ao : Option Addr} {cap : Nat} {Ss : List ByteArray} (h : SRow w ao cap Ss) {G : Nat} (ho : ∀ ad, ao = some ad → G < ad.block) (i : Nat) (v : Value) : SRow (w.setCell ⟨G, i, none⟩ v) ao cap Ss :=
  ⟨h.1, fun h0 => let ⟨b, off, e, hlt, hc⟩ := h.2 h0; ⟨b, off, e, by simpa [World.setCell] using hlt, fun i hi => by
    have := ho _ e
    rw [World.cell?_setCell_other _ _ _ _ (fun h => by injection h with h1; simp at this; omega)]; exact hc i hi⟩⟩

theorem i27l (b : Int) : (Yba.prog.info? 27).map (·.size) = some (KC b).toList.length := by rw [Array.length_toList]; exact i27 b

theorem results_mix {fn : Func} {t p u : Tmp} (h : fn.results = #[.tmp t, .cell p 27, .tmp u]) (tmps : Array Value) (w : World) (g : Nat) (b : Int)
    (hp : tmps.getD p undef = .pointer (some ⟨g, 0, none⟩)) (hg : w.heap[g]? = some (.cells (KC b) 27 (0, 0))) :
    (results fn tmps).run Yba.prog w = .ok (.tuple #[tmps.getD t undef, .agg (KC b), tmps.getD u undef]) w := by
  have hp' : tmps[p]?.getD undef = .pointer (some ⟨g, 0, none⟩) := by simpa using hp
  simp [results, h, hp', asAddr, run_loadVar_row w g 27 27 (KC b) (0, 0) _ hg Yba.underlying27 rfl (i27 b)]

theorem load_block {w : World} {g : Nat} {b : Int} (hg : w.heap[g]? = some (.cells (KC b) 27 (0, 0))) : (loadCellsFrom ⟨g, 0, none⟩ 0 32 #[]).run Yba.prog w = .ok (KC b) w := by
  have := run_loadCells_list (P := Yba.prog) w ⟨g, 0, none⟩ (KC b).toList (fun j v hv => by
    rw [Addr.add_mid, cell_of_row _ _ _ _ 27 (0, 0) hg]
    simpa using hv)
  rw [Array.length_toList, KC_size] at this
  simpa [loadCells] using this

theorem store_block {w : World} {g : Nat} {b : Int} (hg : w.heap[g]? = some (.cells Z32 27 (0, 0))) : ∃ w', (storeCells ⟨g, 0, none⟩ (KC b).toList).run Yba.prog w = .ok () w' ∧ w'.heap[g]? = some (.cells (KC b) 27 (0, 0)) ∧ w.grownBy w' (some g) := by
  have h2 := run_storeVar_row (P := Yba.prog) w g 27 27 Z32 (KC b) hg (i27 b) (by rw [KC_size]; rfl) (KC_one b)
  refine ⟨w.setRow g (KC b), ?_, setRow_heap w g Z32 (KC b) 27 _ hg, ⟨rfl, rfl, rfl, by simp, fun k _ hk => setRow_other w g k _ (fun e => hk (by rw [e]))⟩⟩
  cases hq : Yba.prog.info? 27 with
  | none => have := info27; simp [hq] at this
  | some i =>
    have hs : i.size = 32 := by have := info27; simpa [hq] using this
    simpa [storeVar, sizeOf, typeInfo, hq, Value.cells, hs, KC_size] using h2

theorem wp_store_block {P : Program} {o : Oper} {ac : Act} {w : World} {K : Act → World → Prop} {Q : Exit → Act → World → Prop} (ty : TypeId) (x y : Operand) (hop : o.op = .store ty x y) (g : Nat) (old cs : Array Value) (t : TypeId) (hx : ac.eval x = .pointer (some ⟨g, 0, none⟩)) (hy : ac.eval y = .agg cs)
    (hb : w.heap[g]? = some (.cells old t (0, 0))) (hs : old.size = cs.size) (hi : (P.info? ty).map (·.size) = some cs.size) (h1 : cs.all (·.oneCell') = true)
    (h : ∀ w', w'.heap[g]? = some (.cells cs t (0, 0)) → w.grownBy w' (some g) → K (ac.put o.dst undef) w') : o.wp P ac w K Q := by
  have ht : w.there g 0 cs.size := fun j hj => by
    rw [Nat.zero_add, cell_of_row w g j old t (0, 0) hb]
    refine ⟨?_, frozen_of_row w g j old t hb⟩
    rw [Array.getElem?_eq_getElem (by omega)]; rfl
  refine wp_store_mid ty x y hop g 0 cs hx hy ht hi h1 ?_
  have e : w.setCells g 0 cs.toList = w.setRow g cs := by
    have h2 := run_storeVar_row (P := P) w g t ty old cs hb hi hs h1
    have h3 := run_storeVar_mid (P := P) w g 0 ty cs ht hi h1
    rw [h2] at h3
    injection h3 with _ h4
    exact h4.symm
  rw [e]
  exact h _ (setRow_heap w g old cs t _ hb) ⟨rfl, rfl, rfl, by simp, fun k _ hk => setRow_other w g k _ (fun e => hk (by rw [e]))⟩

/-! ### A frame behind a name -/
theorem abs_act {P : Program} {c : Code} {Q : Exit → Act → World → Prop} {w : World} {a : Act} (F : Act → Prop) (hF : F a) (h : ∀ ac, F ac → Code.wp P c Q ac w) : Code.wp P c Q a w := h a hF
theorem eval_ne (ac : Act) (i j : Nat) (v : Value) (h : i ≠ j) : (ac.put (some i) v).eval (.tmp j) = ac.eval (.tmp j) := by
  show (ac.tmps.setIfInBounds i v).getD j undef = ac.tmps.getD j undef
  simp only [Array.getD_eq_getD_getElem?, Array.getElem?_setIfInBounds, if_neg h]
theorem eval_eq (ac : Act) (i : Nat) (v : Value) (h : i < ac.tmps.size) : (ac.put (some i) v).eval (.tmp i) = v := by
  show (ac.tmps.setIfInBounds i v).getD i undef = v
  simp [Array.getD_eq_getD_getElem?, h]
theorem put_size (ac : Act) (i : Nat) (v : Value) : (ac.put (some i) v).tmps.size = ac.tmps.size := by
  show (ac.tmps.setIfInBounds i v).size = ac.tmps.size
  simp
def F12 (R G B : Nat) (sl : Int) (ac : Act) : Prop :=
  ac.tmps.size = 68 ∧ ac.defers = [] ∧ ac.eval (.tmp 3) = .pointer (some ⟨R, 0, none⟩) ∧ ac.eval (.tmp 5) = .pointer (some ⟨G, 0, none⟩) ∧ ac.eval (.tmp 6) = .pointer (some ⟨B, 0, none⟩) ∧ ac.eval (.tmp 7) = .int .i64 sl

theorem Chan.of_same {w w' : World} {G : Nat} {e : ByteArray} {KA KB : Array Value} {g0 g1 : Value} (h : Chan w G e KA KB g0 g1) (hb : w'.heap[G]? = w.heap[G]?) : Chan w' G e KA KB g0 g1 := by
  have c : ∀ i, w'.cell? ⟨G, i, none⟩ = w.cell? ⟨G, i, none⟩ := fun i => World.cell?_of_block (w := w) (a := ⟨G, i, none⟩) hb
  have f : ∀ i, w'.frozen? ⟨G, i, none⟩ = w.frozen? ⟨G, i, none⟩ := fun i => World.frozen?_of_block (w := w) (a := ⟨G, i, none⟩) hb
  exact ⟨fun j v hv => (c _).trans (h.1 j v hv), h.sizeA, fun j v hv => (c _).trans (h.2.2.1 j v hv), h.sizeB, (c _).trans h.etag, (c _).trans h.at0, (c _).trans h.at1, fun j hj => ⟨by rw [c]; exact (h.all j hj).1, by rw [f]; exact (h.all j hj).2⟩⟩
theorem SRow.grown {w w' : World} {ao : Option Addr} {cap : Nat} {Ss : List ByteArray} {R G : Nat} (h : SRow w ao cap Ss) (ho : ∀ ad, ao = some ad → G < ad.block) (hg : w.grownBy w' (some R)) (hR : R < G) : SRow w' ao cap Ss :=
  ⟨h.1, fun h0 => let ⟨b, off, e, hlt, hc⟩ := h.2 h0; ⟨b, off, e, Nat.lt_of_lt_of_le hlt hg.size, fun i hi => by
    have hGb : G < b := ho _ e
    rw [World.cell?_of_block (w := w) (a := ⟨b, off + i, none⟩) (hg.block b hlt (by simp; omega))]
    exact hc i hi⟩⟩

theorem eval_tmp (ac : Act) (i : Nat) : ac.eval (.tmp i) = ac.tmps.getD i undef := rfl
theorem SRow.grown5 {w w' : World} {ao : Option Addr} {cap : Nat} {Ss : List ByteArray} {R : Nat} (h : SRow w ao cap Ss) (ho : ∀ ad, ao = some ad → 0 < Ss.length → ad.block < R) (hg : w.grownBy w' (some R)) : SRow w' ao cap Ss :=
  ⟨h.1, fun h0 => let ⟨b, off, e, hlt, hc⟩ := h.2 h0; ⟨b, off, e, Nat.lt_of_lt_of_le hlt hg.size, fun i hi => by
    have hGb : b < R := ho _ e h0
    rw [World.cell?_of_block (w := w) (a := ⟨b, off + i, none⟩) (hg.block b hlt (by simp; omega))]
    exact hc i hi⟩⟩
theorem St.grown5 {w W W' : World} {inn : Array Value} {e : ByteArray} {KA KB : Array Value} {g0 g1 : Value} {R : Nat} (h : St w W inn e KA KB g0 g1) (hg : W.grownBy W' (some R)) (hR : w.heap.size + 1 + 1 < R) : St w W' inn e KA KB g0 g1 := by
  have := h.lt
  exact ⟨(hg.block _ (by omega) (by simp; omega)).trans h.1, (hg.block _ (by omega) (by simp; omega)).trans h.2.1, h.2.2.1.of_same (hg.block _ (by omega) (by simp; omega)), h.2.2.2.grown hg (by omega) (fun k hk => by cases hk; omega)⟩

/-- What zzs3424cbuild hands back. -/
def Built (w w' : World) (e : ByteArray) (a b k sl : Int) (S0 S1 : List ByteArray) (en : Ending) : Prop :=
  ∃ G p0 p1, en = .returned (.tuple #[.pointer (some ⟨G, 0, none⟩), .agg (KC k), .int .i64 sl]) ∧ Chan w' G e (KC a) (KC b) (.slice p0 S0.length S0.length) (.slice p1 S1.length S1.length) ∧ SRow w' p0 S0.length S0 ∧ SRow w' p1 S1.length S1 ∧
    (∀ ad, p0 = some ad → G < ad.block) ∧ (∀ ad, p1 = some ad → G < ad.block) ∧ w.heap.size ≤ G ∧ Below w.heap.size w w'

set_option linter.unusedSimpArgs false in
set_option maxHeartbeats 8000000 in
theorem build_any (a b s : Int) (a0 : Option Addr) (c0 : Nat) (S0 : List ByteArray) (a1 : Option Addr) (c1 : Nat) (S1 : List ByteArray) (e : ByteArray) (w : World) (h0 : SRow w a0 c0 S0) (h1 : SRow w a1 c1 S1) (n0 : S0.length ≤ 1024) (n1 : S1.length ≤ 1024) :
    Calls Yba.prog 5 #[.agg (IN a b s a0 S0.length c0 a1 S1.length c1 e)] w fun en w' => ∃ k sl, Built w w' e a b k sl S0 S1 en ∧ ((k = a ∧ sl = 0) ∨ (k = b ∧ sl = 1 ∧ (a == b) = false)) := by
  have HS0 := hide h0
  have HS1 := hide h1
  have kA := KC_size a
  have kB := KC_size b
  clear h0 h1
  go_enter Yba.func5, Yba.ntmps5
  go_wp2_with (first
    | (refine wpList_alloc_run rfl 27 rfl (alloc27 _) ?_)
    | (refine wpList_build_run' rfl 41 #[(1, .tmp 9)] rfl #[(1, .string e)] (by simp [Act.eval]) (build41 e _) ?_))
  have H1 := hide (start_st w (IN a b s a0 S0.length c0 a1 S1.length c1 e) e)
  generalize (((w.alloc (.cells (IN a b s a0 S0.length c0 a1 S1.length c1 e) 24)).alloc (.cells Z32 27)).alloc (.cells (CH e Z32 Z32 (.slice none 0 0) (.slice none 0 0)) 41)) = W1 at *
  have x0 := (unhide H1).cell 0 _ rfl
  go_region_with (go_at_call 10; refine (key_any a _).mono ?_; rintro en w' ⟨rfl, hb⟩; have H1' := hide ((unhide H1).drew.below hb); have hst := (unhide H1').2.2.1.run a 5 (by omega))
  have H2 := hide ((unhide H1').setA a)
  clear H1 H1' hb hst x0
  generalize w'.setCells (w.heap.size + 1 + 1) 5 (KC a).toList = W2 at *
  clear w' W1
  have x0 := (unhide H2).cell 1 _ rfl
  go_wp2
  go_region_with (go_at_call 10; refine (key_any b _).mono ?_; rintro en w' ⟨rfl, hb⟩; have H2' := hide ((unhide H2).drew.below hb); have hst := (unhide H2').2.2.1.run b 37 (by omega))
  have H3 := hide ((unhide H2').setB b)
  clear H2 H2' hb hst x0
  generalize w'.setCells (w.heap.size + 1 + 1) 37 (KC b).toList = W3 at *
  clear w' W2
  have x0 := (unhide H3).cell 3 _ rfl
  have H3s := hide ((unhide HS0).below ((unhide H3).2.2.2))
  go_wp2
  go_region_with (go_at_call 11; refine (clone_any a0 c0 S0 _ (by exact (unhide H3s).below (Below.refl _ _).drew) n0).mono ?_; rintro en w' ⟨p0, rfl, hp0, ho0, hb⟩; have H3' := hide ((unhide H3).drew.below hb); have hfz := ((unhide H3').2.2.1.there 69 1 (by omega) 0 (by omega)).2; have hcl := (unhide H3').2.2.1.at0)
  have H4 := hide ((unhide H3').set0 (.slice p0 S0.length S0.length))
  have lt3 := (unhide H3).lt
  have HO0 : Hid (∀ ad, p0 = some ad → w.heap.size + 1 + 1 < ad.block) := fun ad h => Nat.lt_of_lt_of_le lt3 (ho0 ad h)
  have HP0 := hide (hp0.setCell (fun ad h => (unhide HO0) ad h) 69 (.slice p0 S0.length S0.length))
  clear H3 H3' hb hfz hcl x0 H3s hp0 ho0 lt3
  generalize w'.setCell { block := w.heap.size + 1 + 1, off := 69 } (Value.slice p0 S0.length S0.length) = W4 at *
  clear w' W3
  have x0 := (unhide H4).cell 4 _ rfl
  have H4s := hide ((unhide HS1).below ((unhide H4).2.2.2))
  go_wp2
  go_region_with (go_at_call 11; refine (clone_any a1 c1 S1 _ (by exact (unhide H4s).below (Below.refl _ _).drew) n1).mono ?_; rintro en w' ⟨p1, rfl, hp1, ho1, hb⟩; have H4' := hide ((unhide H4).drew.below hb); have hfz := ((unhide H4').2.2.1.there 70 1 (by omega) 0 (by omega)).2; have hcl := (unhide H4').2.2.1.at1)
  have H5 := hide ((unhide H4').set1 (.slice p1 S1.length S1.length))
  have lt4 := (unhide H4).lt
  have HO1 : Hid (∀ ad, p1 = some ad → w.heap.size + 1 + 1 < ad.block) := fun ad h => Nat.lt_of_lt_of_le lt4 (ho1 ad h)
  have HP1 := hide (hp1.setCell (fun ad h => (unhide HO1) ad h) 70 (.slice p1 S1.length S1.length))
  have HQ0 := hide (((unhide HP0).below ((Below.refl _ _).drew.trans hb)).setCell (fun ad h => (unhide HO0) ad h) 70 (.slice p1 S1.length S1.length))
  clear H4 H4' hb hfz hcl x0 H4s hp1 ho1 lt4 HP0
  generalize w'.setCell { block := w.heap.size + 1 + 1, off := 70 } (Value.slice p1 S1.length S1.length) = W5 at *
  clear w' W4 HS0 HS1
  have hrB := (unhide H5).2.2.1.2.2.1
  have hrA := (unhide H5).2.2.1.1
  have HRB := hide hrB
  have HRA := hide hrA
  clear hrA hrB
  go_wp2_with (first
    | (refine wpList_load_mid rfl 27 (.tmp 43) rfl _ 37 rfl (KC b).toList _ (unhide HRB) Yba.underlying27 rfl (i27l b) ?_)
    | (refine wpList_alloc_run rfl 27 rfl (alloc27 _) ?_)
    | (refine wpList_store_block rfl 27 (.tmp 6) (.tmp 44) rfl W5.heap.size Z32 (KC b) 27 rfl rfl (heap_alloc_new W5 (.cells Z32 27)) rfl (i27 b) (KC_one b) ?_))
  intro W6 hb6 hg6
  have hb56 : Below W5.heap.size W5 W6 := ((Below.refl _ _).alloc (Nat.le_refl _) _).grown hg6 (by simp) (fun k h => by cases h; omega)
  have H6 := hide ((unhide H5).below hb56)
  have HR1 := hide ((unhide HP1).below hb56)
  have HR0 := hide ((unhide HQ0).below hb56)
  have HK := hide hb6
  have x1 := (unhide H6).cell 2 _ rfl
  have x2 := (unhide H6).cell 0 _ rfl
  have x3 := (unhide H6).cell 1 _ rfl
  have ltx := (unhide H5).lt
  have HL0 : Hid (∀ ad, p0 = some ad → 0 < S0.length → ad.block < W5.heap.size) := fun ad h h0 => by
    obtain ⟨bb, off, e1, h2, _⟩ := (unhide HQ0).2 h0
    rw [h] at e1
    cases e1
    exact h2
  have HL1 : Hid (∀ ad, p1 = some ad → 0 < S1.length → ad.block < W5.heap.size) := fun ad h h0 => by
    obtain ⟨bb, off, e1, h2, _⟩ := (unhide HP1).2 h0
    rw [h] at e1
    cases e1
    exact h2
  clear hb6 hg6 hb56 HP1 HQ0 HRA HRB H5
  by_cases hs : s.tmod 2 = 0
  · have hrA := hide (unhide H6).2.2.1.1
    go_wp2_with (first
      | (refine wpList_load_mid rfl 27 (.tmp 52) rfl _ 5 rfl (KC a).toList _ (unhide hrA) Yba.underlying27 rfl (i27l a) ?_)
      | (refine wpList_store_block rfl 27 (.tmp 6) (.tmp 53) rfl W5.heap.size (KC b) (KC a) 27 rfl rfl (unhide HK) rfl (i27 a) (KC_one a) ?_))
    intro W7 hb7 hg7
    have H7' := hide ((unhide H6).grown5 hg7 ltx)
    have H7 := hide (unhide H7').drew
    have HT0 := hide (((unhide HR0).grown5 (unhide HL0) hg7).below (Below.refl _ _).drew)
    have HT1 := hide (((unhide HR1).grown5 (unhide HL1) hg7).below (Below.refl _ _).drew)
    have HK7 : Hid (W7.drew.heap[W5.heap.size]? = some (.cells (KC a) 27 (0, 0))) := hb7
    have x2 := (unhide H7').cell 0 _ rfl
    have x3 := (unhide H7').cell 1 _ rfl
    have x1 := (unhide H7').cell 2 _ rfl
    clear hb7 hg7
    by_cases hab : a = b
    · subst hab
      go_wp2
      refine abs_act (F12 (w.heap.size + 1) (w.heap.size + 1 + 1) W5.heap.size 0) ⟨rfl, rfl, rfl, rfl, rfl, rfl⟩ ?_
      rintro ac ⟨fz, fd, f3, f5, f6, f7⟩
      refine wp_region_any (by kernel_rfl) ?_
      try (change wpAny _ _ _ _ _ _ _ (World.drew _))
      refine wpAny_take (i := 0) (v := .pointer (some ⟨w.heap.size + 1 + 1, 0, none⟩)) rfl (by kernel_rfl) (by kernel_rfl) (by kernel_rfl) (fun _ _ _ h => h) (Or.inl ⟨by rfl, fun w => by simp [execOp, f5]⟩) ?_
      change wpAny _ _ _ _ _ _ (ac.put (some 65) _) _
      refine wpAny_take (i := 2) (v := .int .i64 0) rfl (by kernel_rfl) (by kernel_rfl) (by kernel_rfl) (fun _ _ _ h => h) (Or.inl ⟨by rfl, fun w => by simp [execOp, f7, eval_ne]⟩) ?_
      change wpAny _ _ _ _ _ _ ((ac.put (some 65) _).put (some 67) _) _
      refine wpAny_take (i := 3) (v := .pointer (some ⟨w.heap.size + 1 + 1, 0, none⟩)) rfl (by kernel_rfl) (by kernel_rfl) (by kernel_rfl) (fun _ _ _ h => h) (Or.inl ⟨by rfl, fun w => by simp [execOp, eval_ne, eval_eq, put_size, fz]⟩) ?_
      change wpAny _ _ _ _ _ _ (((ac.put (some 65) _).put (some 67) _).put (some 2) _) _
      refine wpAny_ready (rs := [1]) (by kernel_rfl) (by simp) ?_
      refine AllReady.cons rfl (fun K hK => ?_) AllReady.nil
      rw [if_pos (by rfl)]
      refine wp_load_row 27 (.tmp 6) rfl W5.heap.size (by simp [eval_ne, f6]) 27 (KC a) (0, 0) _ (unhide HK7) Yba.underlying27 rfl (i27 a) ?_
      refine hK _ _ ?_
      clear hK K
      change wpAny _ _ _ _ _ _ ((((ac.put (some 65) _).put (some 67) _).put (some 2) _).put (some 66) _) _
      refine wpAny_ready (rs := [4]) (by kernel_rfl) (by simp) ?_
      refine AllReady.cons rfl (fun K hK => ?_) AllReady.nil
      rw [if_pos (by rfl)]
      refine wp_store_block 27 (.tmp 3) (.tmp 66) rfl (w.heap.size + 1) Z32 (KC a) 27 (by simp [eval_ne, f3]) (by simp [eval_eq, put_size, fz]) (unhide H7).2.1 rfl (i27 a) (KC_one a) ?_
      intro W8 hb8 hg8
      refine hK _ _ ?_
      clear hK K
      change wpAny _ _ _ _ _ _ ((((ac.put (some 65) _).put (some 67) _).put (some 2) _).put (some 66) _) _
      refine wpAny_take (i := 5) (v := .int .i64 0) rfl (by kernel_rfl) (by kernel_rfl) (by kernel_rfl) (fun _ _ _ h => h) (Or.inl ⟨by rfl, fun w => by simp [execOp, eval_ne, eval_eq, put_size, fz]⟩) ?_
      change wpAny _ _ _ _ _ _ (((((ac.put (some 65) _).put (some 67) _).put (some 2) _).put (some 66) _).put (some 4) _) _
      refine wpAny_done (by kernel_rfl) ?_ _
      go_wp2
      have hlt7 := (unhide H7).lt
      have hC8 := (unhide H7).2.2.1.of_same (w' := W8) (hg8.block _ hlt7 (by simp))
      have hS0 := (unhide HT0).grown (unhide HO0) hg8 (by omega)
      have hS1 := (unhide HT1).grown (unhide HO1) hg8 (by omega)
      have hBw : Below w.heap.size w W8 := (unhide H7).2.2.2.grown hg8 (by omega) (fun k h => by cases h; omega)
      refine bodyPost_ret (results_mix rfl _ W8 (w.heap.size + 1) a (by rw [← f3]; simp only [← eval_tmp]; simp [eval_ne]) hb8) (by exact fd) ?_
      refine ⟨a, 0, ⟨w.heap.size + 1 + 1, p0, p1, ?_, hC8, hS0, hS1, unhide HO0, unhide HO1, by omega, hBw⟩, .inl ⟨rfl, rfl⟩⟩
      simp only [← eval_tmp]
      simp [eval_ne, eval_eq, put_size, fz]
    · have hab' : (a == b) = false := by simpa using hab
      go_wp2
      refine abs_act (F12 (w.heap.size + 1) (w.heap.size + 1 + 1) W5.heap.size 0) ⟨rfl, rfl, rfl, rfl, rfl, rfl⟩ ?_
      rintro ac ⟨fz, fd, f3, f5, f6, f7⟩
      refine wp_region_any (by kernel_rfl) ?_
      try (change wpAny _ _ _ _ _ _ _ (World.drew _))
      refine wpAny_take (i := 0) (v := .pointer (some ⟨w.heap.size + 1 + 1, 0, none⟩)) rfl (by kernel_rfl) (by kernel_rfl) (by kernel_rfl) (fun _ _ _ h => h) (Or.inl ⟨by rfl, fun w => by simp [execOp, f5]⟩) ?_
      change wpAny _ _ _ _ _ _ (ac.put (some 65) _) _
      refine wpAny_take (i := 2) (v := .int .i64 0) rfl (by kernel_rfl) (by kernel_rfl) (by kernel_rfl) (fun _ _ _ h => h) (Or.inl ⟨by rfl, fun w => by simp [execOp, f7, eval_ne]⟩) ?_
      change wpAny _ _ _ _ _ _ ((ac.put (some 65) _).put (some 67) _) _
      refine wpAny_take (i := 3) (v := .pointer (some ⟨w.heap.size + 1 + 1, 0, none⟩)) rfl (by kernel_rfl) (by kernel_rfl) (by kernel_rfl) (fun _ _ _ h => h) (Or.inl ⟨by rfl, fun w => by simp [execOp, eval_ne, eval_eq, put_size, fz]⟩) ?_
      change wpAny _ _ _ _ _ _ (((ac.put (some 65) _).put (some 67) _).put (some 2) _) _
      refine wpAny_ready (rs := [1]) (by kernel_rfl) (by simp) ?_
      refine AllReady.cons rfl (fun K hK => ?_) AllReady.nil
      rw [if_pos (by rfl)]
      refine wp_load_row 27 (.tmp 6) rfl W5.heap.size (by simp [eval_ne, f6]) 27 (KC a) (0, 0) _ (unhide HK7) Yba.underlying27 rfl (i27 a) ?_
      refine hK _ _ ?_
      clear hK K
      change wpAny _ _ _ _ _ _ ((((ac.put (some 65) _).put (some 67) _).put (some 2) _).put (some 66) _) _
      refine wpAny_ready (rs := [4]) (by kernel_rfl) (by simp) ?_
      refine AllReady.cons rfl (fun K hK => ?_) AllReady.nil
      rw [if_pos (by rfl)]
      refine wp_store_block 27 (.tmp 3) (.tmp 66) rfl (w.heap.size + 1) Z32 (KC a) 27 (by simp [eval_ne, f3]) (by simp [eval_eq, put_size, fz]) (unhide H7).2.1 rfl (i27 a) (KC_one a) ?_
      intro W8 hb8 hg8
      refine hK _ _ ?_
      clear hK K
      change wpAny _ _ _ _ _ _ ((((ac.put (some 65) _).put (some 67) _).put (some 2) _).put (some 66) _) _
      refine wpAny_take (i := 5) (v := .int .i64 0) rfl (by kernel_rfl) (by kernel_rfl) (by kernel_rfl) (fun _ _ _ h => h) (Or.inl ⟨by rfl, fun w => by simp [execOp, eval_ne, eval_eq, put_size, fz]⟩) ?_
      change wpAny _ _ _ _ _ _ (((((ac.put (some 65) _).put (some 67) _).put (some 2) _).put (some 66) _).put (some 4) _) _
      refine wpAny_done (by kernel_rfl) ?_ _
      go_wp2
      have hlt7 := (unhide H7).lt
      have hC8 := (unhide H7).2.2.1.of_same (w' := W8) (hg8.block _ hlt7 (by simp))
      have hS0 := (unhide HT0).grown (unhide HO0) hg8 (by omega)
      have hS1 := (unhide HT1).grown (unhide HO1) hg8 (by omega)
      have hBw : Below w.heap.size w W8 := (unhide H7).2.2.2.grown hg8 (by omega) (fun k h => by cases h; omega)
      refine bodyPost_ret (results_mix rfl _ W8 (w.heap.size + 1) a (by rw [← f3]; simp only [← eval_tmp]; simp [eval_ne]) hb8) (by exact fd) ?_
      refine ⟨a, 0, ⟨w.heap.size + 1 + 1, p0, p1, ?_, hC8, hS0, hS1, unhide HO0, unhide HO1, by omega, hBw⟩, .inl ⟨rfl, rfl⟩⟩
      simp only [← eval_tmp]
      simp [eval_ne, eval_eq, put_size, fz]
  · have HK7 : Hid (W6.drew.heap[W5.heap.size]? = some (.cells (KC b) 27 (0, 0))) := unhide HK
    have H7 := hide (unhide H6).drew
    have HT0 := hide ((unhide HR0).below (Below.refl _ _).drew)
    have HT1 := hide ((unhide HR1).below (Below.refl _ _).drew)
    by_cases hab : a = b
    · subst hab
      go_wp2
      refine abs_act (F12 (w.heap.size + 1) (w.heap.size + 1 + 1) W5.heap.size 0) ⟨rfl, rfl, rfl, rfl, rfl, rfl⟩ ?_
      rintro ac ⟨fz, fd, f3, f5, f6, f7⟩
      refine wp_region_any (by kernel_rfl) ?_
      try (change wpAny _ _ _ _ _ _ _ (World.drew _))
      refine wpAny_take (i := 0) (v := .pointer (some ⟨w.heap.size + 1 + 1, 0, none⟩)) rfl (by kernel_rfl) (by kernel_rfl) (by kernel_rfl) (fun _ _ _ h => h) (Or.inl ⟨by rfl, fun w => by simp [execOp, f5]⟩) ?_
      change wpAny _ _ _ _ _ _ (ac.put (some 65) _) _
      refine wpAny_take (i := 2) (v := .int .i64 0) rfl (by kernel_rfl) (by kernel_rfl) (by kernel_rfl) (fun _ _ _ h => h) (Or.inl ⟨by rfl, fun w => by simp [execOp, f7, eval_ne]⟩) ?_
      change wpAny _ _ _ _ _ _ ((ac.put (some 65) _).put (some 67) _) _
      refine wpAny_take (i := 3) (v := .pointer (some ⟨w.heap.size + 1 + 1, 0, none⟩)) rfl (by kernel_rfl) (by kernel_rfl) (by kernel_rfl) (fun _ _ _ h => h) (Or.inl ⟨by rfl, fun w => by simp [execOp, eval_ne, eval_eq, put_size, fz]⟩) ?_
      change wpAny _ _ _ _ _ _ (((ac.put (some 65) _).put (some 67) _).put (some 2) _) _
      refine wpAny_ready (rs := [1]) (by kernel_rfl) (by simp) ?_
      refine AllReady.cons rfl (fun K hK => ?_) AllReady.nil
      rw [if_pos (by rfl)]
      refine wp_load_row 27 (.tmp 6) rfl W5.heap.size (by simp [eval_ne, f6]) 27 (KC a) (0, 0) _ (unhide HK7) Yba.underlying27 rfl (i27 a) ?_
      refine hK _ _ ?_
      clear hK K
      change wpAny _ _ _ _ _ _ ((((ac.put (some 65) _).put (some 67) _).put (some 2) _).put (some 66) _) _
      refine wpAny_ready (rs := [4]) (by kernel_rfl) (by simp) ?_
      refine AllReady.cons rfl (fun K hK => ?_) AllReady.nil
      rw [if_pos (by rfl)]
      refine wp_store_block 27 (.tmp 3) (.tmp 66) rfl (w.heap.size + 1) Z32 (KC a) 27 (by simp [eval_ne, f3]) (by simp [eval_eq, put_size, fz]) (unhide H7).2.1 rfl (i27 a) (KC_one a) ?_
      intro W8 hb8 hg8
      refine hK _ _ ?_
      clear hK K
      change wpAny _ _ _ _ _ _ ((((ac.put (some 65) _).put (some 67) _).put (some 2) _).put (some 66) _) _
      refine wpAny_take (i := 5) (v := .int .i64 0) rfl (by kernel_rfl) (by kernel_rfl) (by kernel_rfl) (fun _ _ _ h => h) (Or.inl ⟨by rfl, fun w => by simp [execOp, eval_ne, eval_eq, put_size, fz]⟩) ?_
      change wpAny _ _ _ _ _ _ (((((ac.put (some 65) _).put (some 67) _).put (some 2) _).put (some 66) _).put (some 4) _) _
      refine wpAny_done (by kernel_rfl) ?_ _
      go_wp2
      have hlt7 := (unhide H7).lt
      have hC8 := (unhide H7).2.2.1.of_same (w' := W8) (hg8.block _ hlt7 (by simp))
      have hS0 := (unhide HT0).grown (unhide HO0) hg8 (by omega)
      have hS1 := (unhide HT1).grown (unhide HO1) hg8 (by omega)
      have hBw : Below w.heap.size w W8 := (unhide H7).2.2.2.grown hg8 (by omega) (fun k h => by cases h; omega)
      refine bodyPost_ret (results_mix rfl _ W8 (w.heap.size + 1) a (by rw [← f3]; simp only [← eval_tmp]; simp [eval_ne]) hb8) (by exact fd) ?_
      refine ⟨a, 0, ⟨w.heap.size + 1 + 1, p0, p1, ?_, hC8, hS0, hS1, unhide HO0, unhide HO1, by omega, hBw⟩, .inl ⟨rfl, rfl⟩⟩
      simp only [← eval_tmp]
      simp [eval_ne, eval_eq, put_size, fz]
    · have hab' : (a == b) = false := by simpa using hab
      go_wp2
      refine abs_act (F12 (w.heap.size + 1) (w.heap.size + 1 + 1) W5.heap.size 1) ⟨rfl, rfl, rfl, rfl, rfl, rfl⟩ ?_
      rintro ac ⟨fz, fd, f3, f5, f6, f7⟩
      refine wp_region_any (by kernel_rfl) ?_
      try (change wpAny _ _ _ _ _ _ _ (World.drew _))
      refine wpAny_take (i := 0) (v := .pointer (some ⟨w.heap.size + 1 + 1, 0, none⟩)) rfl (by kernel_rfl) (by kernel_rfl) (by kernel_rfl) (fun _ _ _ h => h) (Or.inl ⟨by rfl, fun w => by simp [execOp, f5]⟩) ?_
      change wpAny _ _ _ _ _ _ (ac.put (some 65) _) _
      refine wpAny_take (i := 2) (v := .int .i64 1) rfl (by kernel_rfl) (by kernel_rfl) (by kernel_rfl) (fun _ _ _ h => h) (Or.inl ⟨by rfl, fun w => by simp [execOp, f7, eval_ne]⟩) ?_
      change wpAny _ _ _ _ _ _ ((ac.put (some 65) _).put (some 67) _) _
      refine wpAny_take (i := 3) (v := .pointer (some ⟨w.heap.size + 1 + 1, 0, none⟩)) rfl (by kernel_rfl) (by kernel_rfl) (by kernel_rfl) (fun _ _ _ h => h) (Or.inl ⟨by rfl, fun w => by simp [execOp, eval_ne, eval_eq, put_size, fz]⟩) ?_
      change wpAny _ _ _ _ _ _ (((ac.put (some 65) _).put (some 67) _).put (some 2) _) _
      refine wpAny_ready (rs := [1]) (by kernel_rfl) (by simp) ?_
      refine AllReady.cons rfl (fun K hK => ?_) AllReady.nil
      rw [if_pos (by rfl)]
      refine wp_load_row 27 (.tmp 6) rfl W5.heap.size (by simp [eval_ne, f6]) 27 (KC b) (0, 0) _ (unhide HK7) Yba.underlying27 rfl (i27 b) ?_
      refine hK _ _ ?_
      clear hK K
      change wpAny _ _ _ _ _ _ ((((ac.put (some 65) _).put (some 67) _).put (some 2) _).put (some 66) _) _
      refine wpAny_ready (rs := [4]) (by kernel_rfl) (by simp) ?_
      refine AllReady.cons rfl (fun K hK => ?_) AllReady.nil
      rw [if_pos (by rfl)]
      refine wp_store_block 27 (.tmp 3) (.tmp 66) rfl (w.heap.size + 1) Z32 (KC b) 27 (by simp [eval_ne, f3]) (by simp [eval_eq, put_size, fz]) (unhide H7).2.1 rfl (i27 b) (KC_one b) ?_
      intro W8 hb8 hg8
      refine hK _ _ ?_
      clear hK K
      change wpAny _ _ _ _ _ _ ((((ac.put (some 65) _).put (some 67) _).put (some 2) _).put (some 66) _) _
      refine wpAny_take (i := 5) (v := .int .i64 1) rfl (by kernel_rfl) (by kernel_rfl) (by kernel_rfl) (fun _ _ _ h => h) (Or.inl ⟨by rfl, fun w => by simp [execOp, eval_ne, eval_eq, put_size, fz]⟩) ?_
      change wpAny _ _ _ _ _ _ (((((ac.put (some 65) _).put (some 67) _).put (some 2) _).put (some 66) _).put (some 4) _) _
      refine wpAny_done (by kernel_rfl) ?_ _
      go_wp2
      have hlt7 := (unhide H7).lt
      have hC8 := (unhide H7).2.2.1.of_same (w' := W8) (hg8.block _ hlt7 (by simp))
      have hS0 := (unhide HT0).grown (unhide HO0) hg8 (by omega)
      have hS1 := (unhide HT1).grown (unhide HO1) hg8 (by omega)
      have hBw : Below w.heap.size w W8 := (unhide H7).2.2.2.grown hg8 (by omega) (fun k h => by cases h; omega)
      refine bodyPost_ret (results_mix rfl _ W8 (w.heap.size + 1) b (by rw [← f3]; simp only [← eval_tmp]; simp [eval_ne]) hb8) (by exact fd) ?_
      refine ⟨b, 1, ⟨w.heap.size + 1 + 1, p0, p1, ?_, hC8, hS0, hS1, unhide HO0, unhide HO1, by omega, hBw⟩, .inr ⟨rfl, rfl, hab'⟩⟩
      simp only [← eval_tmp]
      simp [eval_ne, eval_eq, put_size, fz]

#print axioms build_any
end Go.Proofs.Ybulkbrws
