/-
  The channel's block, and the walk of (*channel).slot.
-/
import Derived.Test.YbulkbrwsLow
namespace Go.Proofs.Ybulkbrws
open Go.ChangeShapes Go.WideShapes Go.ChangeAt Go.RowKit

/-- The channel's cells: its etag, its two clients' keys, the two lists of etags given; the rest as it was made. -/
def CH (e : ByteArray) (KA KB : Array Value) (g0 g1 : Value) : Array Value :=
  #[.slice none 0 0, .string e, .int .u64 0, .int .i64 0, .pointer none] ++ KA ++ KB ++ #[g0, g1, .chan none, .bool false]

theorem build41 (e : ByteArray) (w : World) : (Instr.build 41 #[(1, .string e)]).run Yba.prog w = .ok (.agg (CH e Z32 Z32 (.slice none 0 0) (.slice none 0 0))) w := by kernel_rfl

theorem CH_etag {e : ByteArray} {KA KB : Array Value} {g0 g1 : Value} : (CH e KA KB g0 g1)[1]? = some (.string e) := by
  simp [CH, Array.getElem?_append]
theorem CH_g0 {e : ByteArray} {KA KB : Array Value} {g0 g1 : Value} (hA : KA.size = 32) (hB : KB.size = 32) : (CH e KA KB g0 g1)[69]? = some g0 := by
  simp [CH, hA, hB]
theorem CH_g1 {e : ByteArray} {KA KB : Array Value} {g0 g1 : Value} (hA : KA.size = 32) (hB : KB.size = 32) : (CH e KA KB g0 g1)[70]? = some g1 := by
  simp [CH, hA, hB]
theorem CH_size {e : ByteArray} {KA KB : Array Value} {g0 g1 : Value} (hA : KA.size = 32) (hB : KB.size = 32) : (CH e KA KB g0 g1).size = 73 := by simp [CH, hA, hB]

/-- The channel at block G. -/
def Chan (w : World) (G : Nat) (e : ByteArray) (KA KB : Array Value) (g0 g1 : Value) : Prop :=
  w.rangeAt G 5 KA.toList ∧ KA.size = 32 ∧ w.rangeAt G 37 KB.toList ∧ KB.size = 32 ∧ w.cell? ⟨G, 1, none⟩ = some (.string e) ∧ w.cell? ⟨G, 69, none⟩ = some g0 ∧ w.cell? ⟨G, 70, none⟩ = some g1 ∧ w.there G 0 73

section
variable {w : World} {G : Nat} {e : ByteArray} {KA KB : Array Value} {g0 g1 : Value}
theorem Chan.etag (h : Chan w G e KA KB g0 g1) : w.cell? ⟨G, 1, none⟩ = some (.string e) := h.2.2.2.2.1
theorem Chan.at0 (h : Chan w G e KA KB g0 g1) : w.cell? ⟨G, 69, none⟩ = some g0 := h.2.2.2.2.2.1
theorem Chan.at1 (h : Chan w G e KA KB g0 g1) : w.cell? ⟨G, 70, none⟩ = some g1 := h.2.2.2.2.2.2.1
theorem Chan.all (h : Chan w G e KA KB g0 g1) : w.there G 0 73 := h.2.2.2.2.2.2.2
theorem Chan.lt (h : Chan w G e KA KB g0 g1) : G < w.heap.size := World.block_lt_of_cell? w ⟨G, 1, none⟩ h.etag
theorem Chan.sizeA (h : Chan w G e KA KB g0 g1) : KA.size = 32 := h.2.1
theorem Chan.sizeB (h : Chan w G e KA KB g0 g1) : KB.size = 32 := h.2.2.2.1
theorem Chan.there (h : Chan w G e KA KB g0 g1) (o n : Nat) (ho : o + n ≤ 73) : w.there G o n := fun j hj => by
  have := h.all (o + j) (by omega)
  rwa [Nat.zero_add] at this
theorem Chan.clients (h : Chan w G e KA KB g0 g1) : w.rangeAt G 5 (KA.toList ++ KB.toList) := by
  intro j v hv
  rw [List.getElem?_append] at hv
  split at hv
  · exact h.1 j v hv
  · rename_i h1
    have := h.2.2.1 _ v hv
    simp [h.sizeA] at h1 this
    rwa [show 37 + (j - 32) = 5 + j by omega] at this
theorem Chan.below {w' : World} (h : Chan w G e KA KB g0 g1) (hb : Below w.heap.size w w') : Chan w' G e KA KB g0 g1 :=
  ⟨fun j v hv => (hb.cell (p := ⟨G, 5 + j, none⟩) h.lt).trans (h.1 j v hv), h.sizeA, fun j v hv => (hb.cell (p := ⟨G, 37 + j, none⟩) h.lt).trans (h.2.2.1 j v hv), h.sizeB,
    (hb.cell (p := ⟨G, 1, none⟩) h.lt).trans h.etag, (hb.cell (p := ⟨G, 69, none⟩) h.lt).trans h.at0, (hb.cell (p := ⟨G, 70, none⟩) h.lt).trans h.at1,
    fun j hj => ⟨by rw [hb.cell (p := ⟨G, 0 + j, none⟩) h.lt]; exact (h.all j hj).1, by rw [hb.frozen (p := ⟨G, 0 + j, none⟩) h.lt]; exact (h.all j hj).2⟩⟩
theorem Chan.setA (h : Chan w G e KA KB g0 g1) (K : Array Value) (hK : K.size = 32) : Chan (w.setCells G 5 K.toList) G e K KB g0 g1 := by
  have out : ∀ o v, w.cell? ⟨G, o, none⟩ = some v → (o < 5 ∨ 37 ≤ o) → (w.setCells G 5 K.toList).cell? ⟨G, o, none⟩ = some v := fun o v hv ho => by
    rw [World.cell?_setCells_out G _ 5 w ⟨G, o, none⟩ (fun _ _ => by simp [hK]; exact ho)]; exact hv
  exact ⟨World.rangeAt_setCells_same w G 5 _ (by simp [hK]; exact h.there 5 32 (by omega)), hK, World.rangeAt_setCells_apart h.2.2.1 G 5 _ (by simp [hK]), h.sizeB, out _ _ h.etag (by omega), out _ _ h.at0 (by omega), out _ _ h.at1 (by omega), World.there_setCells h.all _ _ _⟩
theorem Chan.setB (h : Chan w G e KA KB g0 g1) (K : Array Value) (hK : K.size = 32) : Chan (w.setCells G 37 K.toList) G e KA K g0 g1 := by
  have out : ∀ o v, w.cell? ⟨G, o, none⟩ = some v → (o < 37 ∨ 69 ≤ o) → (w.setCells G 37 K.toList).cell? ⟨G, o, none⟩ = some v := fun o v hv ho => by
    rw [World.cell?_setCells_out G _ 37 w ⟨G, o, none⟩ (fun _ _ => by simp [hK]; exact ho)]; exact hv
  exact ⟨World.rangeAt_setCells_apart h.1 G 37 _ (by simp [h.sizeA]), h.sizeA, World.rangeAt_setCells_same w G 37 _ (by simp [hK]; exact h.there 37 32 (by omega)), hK, out _ _ h.etag (by omega), out _ _ h.at0 (by omega), out _ _ h.at1 (by omega), World.there_setCells h.all _ _ _⟩
theorem Chan.set0 (h : Chan w G e KA KB g0 g1) (v : Value) : Chan (w.setCell ⟨G, 69, none⟩ v) G e KA KB v g1 := by
  have e0 : w.setCell ⟨G, 69, none⟩ v = w.setCells G 69 [v] := rfl
  rw [e0]
  have out : ∀ o v', w.cell? ⟨G, o, none⟩ = some v' → (o < 69 ∨ 70 ≤ o) → (w.setCells G 69 [v]).cell? ⟨G, o, none⟩ = some v' := fun o v' hv ho => by
    rw [World.cell?_setCells_out G _ 69 w ⟨G, o, none⟩ (fun _ _ => by simp; exact ho)]; exact hv
  exact ⟨World.rangeAt_setCells_apart h.1 G 69 _ (by simp [h.sizeA]), h.sizeA, World.rangeAt_setCells_apart h.2.2.1 G 69 _ (by simp [h.sizeB]), h.sizeB, out _ _ h.etag (by omega), World.rangeAt_setCells_same w G 69 [v] (h.there 69 1 (by omega)) 0 v rfl, out _ _ h.at1 (by omega), World.there_setCells h.all _ _ _⟩
theorem Chan.set1 (h : Chan w G e KA KB g0 g1) (v : Value) : Chan (w.setCell ⟨G, 70, none⟩ v) G e KA KB g0 v := by
  have e0 : w.setCell ⟨G, 70, none⟩ v = w.setCells G 70 [v] := rfl
  rw [e0]
  have out : ∀ o v', w.cell? ⟨G, o, none⟩ = some v' → (o < 70 ∨ 71 ≤ o) → (w.setCells G 70 [v]).cell? ⟨G, o, none⟩ = some v' := fun o v' hv ho => by
    rw [World.cell?_setCells_out G _ 70 w ⟨G, o, none⟩ (fun _ _ => by simp; exact ho)]; exact hv
  exact ⟨World.rangeAt_setCells_apart h.1 G 70 _ (by simp [h.sizeA]), h.sizeA, World.rangeAt_setCells_apart h.2.2.1 G 70 _ (by simp [h.sizeB]), h.sizeB, out _ _ h.etag (by omega), out _ _ h.at0 (by omega), World.rangeAt_setCells_same w G 70 [v] (h.there 70 1 (by omega)) 0 v rfl, World.there_setCells h.all _ _ _⟩
end

theorem CH_A {e : ByteArray} {KA KB : Array Value} {g0 g1 : Value} (hA : KA.size = 32) (j : Nat) (v : Value) (hv : KA.toList[j]? = some v) : (CH e KA KB g0 g1)[5 + j]? = some v := by
  have hj := (List.getElem?_eq_some_iff.1 hv).1
  simp [hA] at hj hv
  simp only [CH, Array.getElem?_append, Array.size_append, hA]
  rw [if_pos (by simp; omega), if_pos (by simp; omega), if_neg (by simp)]
  simpa using hv
theorem CH_B {e : ByteArray} {KA KB : Array Value} {g0 g1 : Value} (hA : KA.size = 32) (hB : KB.size = 32) (j : Nat) (v : Value) (hv : KB.toList[j]? = some v) : (CH e KA KB g0 g1)[37 + j]? = some v := by
  have hj := (List.getElem?_eq_some_iff.1 hv).1
  simp [hB] at hj hv
  simp only [CH, Array.getElem?_append, Array.size_append, hA, hB]
  rw [if_pos (by simp; omega), if_neg (by simp)]
  simpa using hv
/-- The channel as it is made. -/
theorem Chan.of_block {w : World} {G : Nat} {e : ByteArray} {KA KB : Array Value} {g0 g1 : Value} (h : w.heap[G]? = some (.cells (CH e KA KB g0 g1) 41 (0, 0))) (hA : KA.size = 32) (hB : KB.size = 32) : Chan w G e KA KB g0 g1 :=
  ⟨fun j v hv => by rw [cell_of_row w G _ _ 41 (0, 0) h, CH_A hA j v hv], hA, fun j v hv => by rw [cell_of_row w G _ _ 41 (0, 0) h, CH_B hA hB j v hv], hB,
    by rw [cell_of_row w G _ _ 41 (0, 0) h, CH_etag], by rw [cell_of_row w G _ _ 41 (0, 0) h, CH_g0 hA hB], by rw [cell_of_row w G _ _ 41 (0, 0) h, CH_g1 hA hB],
    fun j hj => ⟨by rw [cell_of_row w G _ _ 41 (0, 0) h, Array.getElem?_eq_getElem (by rw [CH_size hA hB]; omega)]; rfl, frozen_of_row w G _ _ 41 h⟩⟩

theorem index0 (KA KB : Array Value) (hA : KA.size = 32) (w : World) : (Instr.index 37 (.agg (KA.toList ++ KB.toList).toArray) (.int .i64 0)).run Yba.prog w = .ok (.agg KA) w := by
  simp only [Instr.index, asIntOf, Sem.run_bind, Sem.run_pure, Result.andThen_ok, run_underlying Yba.underlying37, part]
  simp [hA]
theorem index1 (KA KB : Array Value) (hA : KA.size = 32) (hB : KB.size = 32) (w : World) : (Instr.index 37 (.agg (KA.toList ++ KB.toList).toArray) (.int .i64 1)).run Yba.prog w = .ok (.agg KB) w := by
  simp only [Instr.index, asIntOf, Sem.run_bind, Sem.run_pure, Result.andThen_ok, run_underlying Yba.underlying37, part]
  simp [hA]
  rw [List.take_of_length_le (by simp [hB])]

theorem i27 (b : Int) : (Yba.prog.info? 27).map (·.size) = some (KC b).size := by rw [info27, KC_size]

set_option maxHeartbeats 1000000 in
/-- slot, where the client is the first. -/
theorem slot_0 (G : Nat) (e : ByteArray) (a : Int) (KB : Array Value) (g0 g1 : Value) (w : World) (hC : Chan w G e (KC a) KB g0 g1) :
    Calls Yba.prog 12 #[.pointer (some ⟨G, 0, none⟩), .agg (KC a)] w fun en w' => en = .returned (.int .i64 0) ∧ Below w.heap.size w w' := by
  have hr := World.rangeAt_alloc hC.clients (.cells (KC a) 27)
  have hB := hC.sizeB
  have hlt := hC.lt
  have heq := eq_same a
  have hi : (Yba.prog.info? 37).map (·.size) = some ((KC a).toList ++ KB.toList).length := by rw [info37, List.length_append, Array.length_toList, Array.length_toList, KC_size, hB]
  have hblk := heap_alloc2_new w (.cells (KC a) 27) (.cells Z32 27)
  have hblk0 := heap_alloc2_old w (.cells (KC a) 27) (.cells Z32 27)
  have HB := hide hblk
  have HB0 := hide hblk0
  clear hC hB hblk hblk0
  go_enter Yba.func12, Yba.ntmps12
  go_wp2_with (refine wpList_load_mid rfl 37 (.tmp 9) rfl G 5 rfl ((KC a).toList ++ KB.toList) _ hr Yba.underlying37 rfl hi ?_)
  refine wp_loop_rounds 1 ?_
  rw [rounds_succ]
  go_wp2_with (first
    | (refine wpList_index_run rfl 37 (.tmp 10) (.tmp 11) rfl rfl rfl (index0 _ _ (KC_size a) _) ?_)
    | (refine wpList_alloc_run rfl 27 rfl (alloc27 _) ?_)
    | (refine wpList_store_block rfl 27 (.tmp 6) (.tmp 14) rfl (w.heap.size + 1) Z32 (KC a) 27 rfl rfl (unhide HB) rfl (i27 a) (KC_one a) ?_))
  intro w2 hb2 hg2
  have hb3 : w2.heap[w.heap.size]? = some (.cells (KC a) 27 (0, 0)) := by rw [hg2.block _ (by simp; omega) (by simp)]; exact unhide HB0
  have hbw : Below w.heap.size w w2 := (((Below.refl _ _).alloc (Nat.le_refl _) _).alloc (by simp) _).grown hg2 (by simp; omega) (fun k h => by cases h; omega)
  have HX2 := hide hb2
  have HX3 := hide hb3
  clear hb2 hg2 hb3
  go_wp2_with (first
    | (refine wpList_load_row rfl 27 (.tmp 6) rfl (w.heap.size + 1) rfl 27 (KC a) (0, 0) _ (unhide HX2) Yba.underlying27 rfl (i27 a) ?_)
    | (refine wpList_load_row rfl 27 (.tmp 3) rfl w.heap.size rfl 27 (KC a) (0, 0) _ (unhide HX3) Yba.underlying27 rfl (i27 a) ?_))
  go_ret
  exact ⟨rfl, hbw⟩

set_option maxHeartbeats 1000000 in
/-- slot, where the client is the second, and another than the first. -/
theorem slot_1 (G : Nat) (e : ByteArray) (a b : Int) (hab : (a == b) = false) (g0 g1 : Value) (w : World) (hC : Chan w G e (KC a) (KC b) g0 g1) :
    Calls Yba.prog 12 #[.pointer (some ⟨G, 0, none⟩), .agg (KC b)] w fun en w' => en = .returned (.int .i64 1) ∧ Below w.heap.size w w' := by
  have hr := World.rangeAt_alloc hC.clients (.cells (KC b) 27)
  have hlt := hC.lt
  have heq := eq_same b
  have hne := eq_other a b hab
  have hi : (Yba.prog.info? 37).map (·.size) = some ((KC a).toList ++ (KC b).toList).length := by rw [info37, List.length_append, Array.length_toList, Array.length_toList, KC_size, KC_size]
  have hblk := heap_alloc2_new w (.cells (KC b) 27) (.cells Z32 27)
  have hblk0 := heap_alloc2_old w (.cells (KC b) 27) (.cells Z32 27)
  have HB := hide hblk
  have HB0 := hide hblk0
  clear hC hblk hblk0 hab
  go_enter Yba.func12, Yba.ntmps12
  go_wp2_with (refine wpList_load_mid rfl 37 (.tmp 9) rfl G 5 rfl ((KC a).toList ++ (KC b).toList) _ hr Yba.underlying37 rfl hi ?_)
  refine wp_loop_rounds 2 ?_
  rw [rounds_succ]
  go_wp2_with (first
    | (refine wpList_index_run rfl 37 (.tmp 10) (.tmp 11) rfl rfl rfl (index0 _ _ (KC_size a) _) ?_)
    | (refine wpList_alloc_run rfl 27 rfl (alloc27 _) ?_)
    | (refine wpList_store_block rfl 27 (.tmp 6) (.tmp 14) rfl (w.heap.size + 1) Z32 (KC a) 27 rfl rfl (unhide HB) rfl (i27 a) (KC_one a) ?_))
  intro w2 hb2 hg2
  have hb3 : w2.heap[w.heap.size]? = some (.cells (KC b) 27 (0, 0)) := by rw [hg2.block _ (by simp; omega) (by simp)]; exact unhide HB0
  have hbw : Below w.heap.size w w2 := (((Below.refl _ _).alloc (Nat.le_refl _) _).alloc (by simp) _).grown hg2 (by simp; omega) (fun k h => by cases h; omega)
  have HX2 := hide hb2
  have HX3 := hide hb3
  have hl := (Array.getElem?_eq_some_iff.1 hb2).1
  have HB1 := hide (heap_alloc_new w2 (.cells Z32 27))
  clear hb2 hg2 hb3 HB HB0
  go_wp2_with (first
    | (refine wpList_load_row rfl 27 (.tmp 6) rfl (w.heap.size + 1) rfl 27 (KC a) (0, 0) _ (unhide HX2) Yba.underlying27 rfl (i27 a) ?_)
    | (refine wpList_load_row rfl 27 (.tmp 3) rfl w.heap.size rfl 27 (KC b) (0, 0) _ (unhide HX3) Yba.underlying27 rfl (i27 b) ?_))
  rw [rounds_succ]
  go_wp2_with (first
    | (refine wpList_index_run rfl 37 (.tmp 10) (.tmp 11) rfl rfl rfl (index1 _ _ (KC_size a) (KC_size b) _) ?_)
    | (refine wpList_alloc_run rfl 27 rfl (alloc27 _) ?_)
    | (refine wpList_store_block rfl 27 (.tmp 6) (.tmp 14) rfl w2.heap.size Z32 (KC b) 27 rfl rfl (unhide HB1) rfl (i27 b) (KC_one b) ?_))
  intro w4 hb4 hg4
  have hb5 : w4.heap[w.heap.size]? = some (.cells (KC b) 27 (0, 0)) := by rw [hg4.block _ (by simp; omega) (by simp; omega), Below.heap_alloc _ _ _ (by omega)]; exact unhide HX3
  have hbw4 : Below w.heap.size w w4 := (hbw.alloc (by omega) _).grown hg4 (by simp; omega) (fun k h => by cases h; omega)
  have HX4 := hide hb4
  have HX5 := hide hb5
  clear hb4 hg4 hb5 HX2 HX3 HB1
  go_wp2_with (first
    | (refine wpList_load_row rfl 27 (.tmp 6) rfl w2.heap.size rfl 27 (KC b) (0, 0) _ (unhide HX4) Yba.underlying27 rfl (i27 b) ?_)
    | (refine wpList_load_row rfl 27 (.tmp 3) rfl w.heap.size rfl 27 (KC b) (0, 0) _ (unhide HX5) Yba.underlying27 rfl (i27 b) ?_))
  go_ret
  exact ⟨rfl, hbw4⟩

#print axioms slot_0
#print axioms slot_1
end Go.Proofs.Ybulkbrws
