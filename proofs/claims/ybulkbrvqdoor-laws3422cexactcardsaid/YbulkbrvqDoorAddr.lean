/-
  The walk of zzs3422caddr.
-/
import Derived.Test.YbulkbrvqDoorNet16
import Derived.Test.YbulkbrvqDoorWire
import Derived.Laws.CopyOwn
import Derived.Deep.WholeRow
namespace Go.Proofs.YbulkbrvqDoor
open Go.ChangeShapes Go.WideShapes Go.ChangeAt Go.RowKit

theorem Ybad.size5 : (Ybad.prog.info? 5).map (·.size) = some 1 := by kernel_rfl

/-- 'copy' that fills the block laid last. -/
theorem copy_last (W : World) (t ty : TypeId) (Z : Array Value) (g n sLen sCap sg : Nat) (xs : List Int) (hg : g = W.heap.size) (hz : Z.size = n) (hx : xs.length = n) (hs : n ≤ sLen)
    (hcell : ∀ j, j < n → W.cell? ⟨sg, j, none⟩ = some (.int .u8 (xs.getD j 0))) :
    (Builtin.copy_ #[22, 22] ty #[.slice (some ⟨g, 0, none⟩) n n, .slice (some ⟨sg, 0, none⟩) sLen sCap]).run Ybad.prog (W.alloc (.cells Z t)) = .ok (.int .i64 n) (W.alloc (.cells (bs xs).toArray t)) ∧
    (Builtin.copy_ #[22, 22] ty #[.slice (some ⟨g, 0, none⟩) n n, .slice (some ⟨sg, 0, none⟩) sLen sCap]).run Ybad.prog (W.alloc (.cells Z t)).drew = .ok (.int .i64 n) (W.alloc (.cells (bs xs).toArray t)).drew := by
  subst hg
  have hsrc : ∀ j v, (bs xs)[j]? = some v → (W.alloc (.cells Z t)).cell? ((⟨sg, 0, none⟩ : Addr).add j) = some v := by
    intro j u hu
    rw [Addr.add_lit, Nat.zero_add]
    have hj : j < xs.length := by have := (List.getElem?_eq_some_iff.1 hu).1; simpa [bs] using this
    have h1 := hcell j (by omega)
    rw [((Below.refl W.heap.size W).alloc (Nat.le_refl _) (.cells Z t)).cell (p := ⟨sg, j, none⟩) (World.block_lt_of_cell? _ _ h1), h1]
    simp only [bs, List.getElem?_map] at hu
    simpa [hj, List.getD] using hu
  have e : (Z.toList.take 0 ++ bs xs ++ Z.toList.drop (0 + (bs xs).length)).toArray = (bs xs).toArray := by
    have : Z.toList.drop (0 + (bs xs).length) = [] := by apply List.drop_eq_nil_of_le; simp [bs]; omega
    rw [this]; simp
  refine ⟨?_, ?_⟩
  · have h := run_copy_row (P := Ybad.prog) (W.alloc (.cells Z t)) 22 22 ty 5 W.heap.size 0 n n ⟨sg, 0, none⟩ sLen sCap Z t (bs xs) Ybad.underlying22 Ybad.size5 (heap_alloc_new W _) (by rw [bs_len, hx]; simp [Nat.min_def]; omega) hsrc (by rw [bs_len]; omega) (bs_one xs)
    rw [e, World.setRow_alloc_new, bs_len, hx] at h
    exact h
  · have h := run_copy_row (P := Ybad.prog) (W.alloc (.cells Z t)).drew 22 22 ty 5 W.heap.size 0 n n ⟨sg, 0, none⟩ sLen sCap Z t (bs xs) Ybad.underlying22 Ybad.size5 (heap_alloc_new W _) (by rw [bs_len, hx]; simp [Nat.min_def]; omega) hsrc (by rw [bs_len]; omega) (bs_one xs)
    have e2 : (W.alloc (.cells Z t)).drew.setRow W.heap.size (bs xs).toArray = ((W.alloc (.cells Z t)).setRow W.heap.size (bs xs).toArray).drew := rfl
    rw [e, e2, World.setRow_alloc_new, bs_len, hx] at h
    exact h

theorem cell_in2 (w : World) (c : Array Value) (t : TypeId) (R : Obj) (j : Nat) : ((w.alloc (.cells c t)).alloc R).cell? ⟨w.heap.size, j, none⟩ = c[j]? := by
  have e : ((w.alloc (.cells c t)).alloc R).heap[w.heap.size]? = some (.cells c t (0, 0)) := by rw [Below.heap_alloc _ _ _ (by simp), heap_alloc_new]
  simp [World.cell?, e]
theorem cell_in3 (w : World) (c : Array Value) (t : TypeId) (R F : Obj) (j : Nat) : (((w.alloc (.cells c t)).alloc R).alloc F).cell? ⟨w.heap.size, j, none⟩ = c[j]? := by
  have e : (((w.alloc (.cells c t)).alloc R).alloc F).heap[w.heap.size]? = some (.cells c t (0, 0)) := by rw [Below.heap_alloc _ _ _ (by simp <;> omega), Below.heap_alloc _ _ _ (by simp), heap_alloc_new]
  simp [World.cell?, e]

theorem mk4 (w : World) : (Instr.makeSlice 22 (.int .i64 4) (.int .i64 4)).run Ybad.prog w = .ok (.slice (some ⟨w.heap.size, 0, none⟩) 4 4) (w.alloc (.cells #[.int .u8 0, .int .u8 0, .int .u8 0, .int .u8 0] 5)) := by kernel_rfl
theorem mk16 (w : World) : (Instr.makeSlice 22 (.int .i64 16) (.int .i64 16)).run Ybad.prog w = .ok (.slice (some ⟨w.heap.size, 0, none⟩) 16 16) (w.alloc (.cells #[.int .u8 0, .int .u8 0, .int .u8 0, .int .u8 0, .int .u8 0, .int .u8 0, .int .u8 0, .int .u8 0, .int .u8 0, .int .u8 0, .int .u8 0, .int .u8 0, .int .u8 0, .int .u8 0, .int .u8 0, .int .u8 0] 5)) := by kernel_rfl

set_option maxHeartbeats 4000000 in
theorem addr0_any (k : Int) (hk0 : 0 ≤ k) (hk1 : k ≤ 255) (hk : (k % 3 == 0) = true) (b0 b1 b2 b3 b4 b5 b6 b7 b8 b9 b10 b11 b12 b13 b14 b15 : Int) (h0 : isB b0) (h1 : isB b1) (h2 : isB b2) (h3 : isB b3) (a4 a6 : Addr) (w : World) (hG : Gl w a4 a6) :
    Calls Ybad.prog 4 #[.int .u8 k, .agg #[.int .u8 b0, .int .u8 b1, .int .u8 b2, .int .u8 b3, .int .u8 b4, .int .u8 b5, .int .u8 b6, .int .u8 b7, .int .u8 b8, .int .u8 b9, .int .u8 b10, .int .u8 b11, .int .u8 b12, .int .u8 b13, .int .u8 b14, .int .u8 b15]] w fun e w' => ∃ rv, e = .returned (.tuple #[.agg #[.int .u64 0, .int .u64 (be4 b0 b1 b2 b3), .pointer (some a4)], rv]) ∧ Src w' rv [b0, b1, b2, b3] ∧ Below w.heap.size w w' := by
  have hcp1 := (copy_last ((w.alloc (.cells #[.int .u8 b0, .int .u8 b1, .int .u8 b2, .int .u8 b3, .int .u8 b4, .int .u8 b5, .int .u8 b6, .int .u8 b7, .int .u8 b8, .int .u8 b9, .int .u8 b10, .int .u8 b11, .int .u8 b12, .int .u8 b13, .int .u8 b14, .int .u8 b15] 23)).alloc (.cells #[.int .u64 0, .int .u64 0, .pointer none] 32)) 42 3 #[.int .u8 0, .int .u8 0, .int .u8 0, .int .u8 0] (w.heap.size + 1 + 1) 4 4 16 w.heap.size [b0, b1, b2, b3] (by simp) rfl rfl (by omega) (fun j hj => by
    have : j = 0 ∨ j = 1 ∨ j = 2 ∨ j = 3 := by omega
    rcases this with rfl | rfl | rfl | rfl <;> simp)).2
  have hcp2 := (copy_last (((w.alloc (.cells #[.int .u8 b0, .int .u8 b1, .int .u8 b2, .int .u8 b3, .int .u8 b4, .int .u8 b5, .int .u8 b6, .int .u8 b7, .int .u8 b8, .int .u8 b9, .int .u8 b10, .int .u8 b11, .int .u8 b12, .int .u8 b13, .int .u8 b14, .int .u8 b15] 23)).alloc (.cells #[.int .u64 0, .int .u64 0, .pointer none] 32)).alloc (.cells #[.int .u8 b0, .int .u8 b1, .int .u8 b2, .int .u8 b3] 42)) 5 3 #[.int .u8 0, .int .u8 0, .int .u8 0, .int .u8 0] (w.heap.size + 1 + 1 + 1) 4 4 16 w.heap.size [b0, b1, b2, b3] (by simp) rfl rfl (by omega) (fun j hj => by
    rw [cell_in3]
    have : j = 0 ∨ j = 1 ∨ j = 2 ∨ j = 3 := by omega
    rcases this with rfl | rfl | rfl | rfl <;> simp)).2
  have hmk := mk4
  simp only [bs, List.map_cons, List.map_nil] at hcp1 hcp2
  go_enter Ybad.func4, Ybad.ntmps4
  go_wp2
  go_region
  go_wp2_with fail
  refine (from4_any b0 b1 b2 b3 h0 h1 h2 h3 a4 a6 _ ?_).mono ?_
  · exact ((((hG.al _).al _).al _).al _).below ((Below.refl _ _).drew)
  rintro e w1 ⟨rfl, hb⟩
  have hbk : w1.heap[w.heap.size + 1]? = some (.cells #[.int .u64 0, .int .u64 0, .pointer none] 32 (0, 0)) := by
    rw [hb.block _ (by simp <;> omega)]
    show ((((w.alloc _).alloc _).alloc _).alloc _).heap[w.heap.size + 1]? = _
    rw [Below.heap_alloc _ _ _ (by simp <;> omega), Below.heap_alloc _ _ _ (by simp), show w.heap.size + 1 = (w.alloc (.cells #[.int .u8 b0, .int .u8 b1, .int .u8 b2, .int .u8 b3, .int .u8 b4, .int .u8 b5, .int .u8 b6, .int .u8 b7, .int .u8 b8, .int .u8 b9, .int .u8 b10, .int .u8 b11, .int .u8 b12, .int .u8 b13, .int .u8 b14, .int .u8 b15] 23)).heap.size by simp, heap_alloc_new]
  have hraw : w1.heap[w.heap.size + 1 + 1 + 1]? = some (.cells #[.int .u8 b0, .int .u8 b1, .int .u8 b2, .int .u8 b3] 5 (0, 0)) := by
    rw [hb.block _ (by simp)]
    show ((((w.alloc (.cells #[.int .u8 b0, .int .u8 b1, .int .u8 b2, .int .u8 b3, .int .u8 b4, .int .u8 b5, .int .u8 b6, .int .u8 b7, .int .u8 b8, .int .u8 b9, .int .u8 b10, .int .u8 b11, .int .u8 b12, .int .u8 b13, .int .u8 b14, .int .u8 b15] 23)).alloc (.cells #[.int .u64 0, .int .u64 0, .pointer none] 32)).alloc (.cells #[.int .u8 b0, .int .u8 b1, .int .u8 b2, .int .u8 b3] 42)).alloc _).heap[w.heap.size + 1 + 1 + 1]? = _
    rw [show w.heap.size + 1 + 1 + 1 = (((w.alloc (.cells #[.int .u8 b0, .int .u8 b1, .int .u8 b2, .int .u8 b3, .int .u8 b4, .int .u8 b5, .int .u8 b6, .int .u8 b7, .int .u8 b8, .int .u8 b9, .int .u8 b10, .int .u8 b11, .int .u8 b12, .int .u8 b13, .int .u8 b14, .int .u8 b15] 23)).alloc (.cells #[.int .u64 0, .int .u64 0, .pointer none] 32)).alloc (.cells #[.int .u8 b0, .int .u8 b1, .int .u8 b2, .int .u8 b3] 42)).heap.size by simp, heap_alloc_new]
  have hbw : Below w.heap.size w w1 := (((((Below.refl w.heap.size w).alloc (Nat.le_refl _) (.cells #[.int .u8 b0, .int .u8 b1, .int .u8 b2, .int .u8 b3, .int .u8 b4, .int .u8 b5, .int .u8 b6, .int .u8 b7, .int .u8 b8, .int .u8 b9, .int .u8 b10, .int .u8 b11, .int .u8 b12, .int .u8 b13, .int .u8 b14, .int .u8 b15] 23)).alloc (by simp) (.cells #[.int .u64 0, .int .u64 0, .pointer none] 32)).alloc (by simp <;> omega) (.cells #[.int .u8 b0, .int .u8 b1, .int .u8 b2, .int .u8 b3] 42)).alloc (by simp <;> omega) _).drew.trans (hb.mono (by simp <;> omega))
  have c0 : w1.cell? ⟨w.heap.size + 1, 0, none⟩ = some (.int .u64 0) := by simp [World.cell?, hbk]
  have c1 : w1.cell? ⟨w.heap.size + 1, 1, none⟩ = some (.int .u64 0) := by simp [World.cell?, hbk]
  have c2 : w1.cell? ⟨w.heap.size + 1, 2, none⟩ = some (.pointer none) := by simp [World.cell?, hbk]
  have f0 : w1.frozen? ⟨w.heap.size + 1, 0, none⟩ = false := by simp [World.frozen?, hbk]
  have f1 : w1.frozen? ⟨w.heap.size + 1, 1, none⟩ = false := by simp [World.frozen?, hbk]
  have f2 : w1.frozen? ⟨w.heap.size + 1, 2, none⟩ = false := by simp [World.frozen?, hbk]
  have hsz : w.heap.size + 1 + 1 + 1 < w1.heap.size := (Array.getElem?_eq_some_iff.1 hraw).1
  have HR := hide hraw
  clear hcp1 hcp2 hmk hG hb hbk hraw
  go_wp2
  refine bodyPost_ret (v := .tuple #[.agg #[.int .u64 0, .int .u64 (be4 b0 b1 b2 b3), .pointer (some a4)], .slice (some ⟨w.heap.size + 1 + 1 + 1, 0, none⟩) 4 4]) (by simp [results, Ybad.results4, go_sem, c0, c1, c2]) rfl ⟨_, rfl, ?_, ((hbw.setCell (by simp) _).setCell (by simp) _).setCell (by simp) _⟩
  refine .inr ⟨w.heap.size + 1 + 1 + 1, 4, rfl, by simp [World.setCell]; omega, fun i hi => ?_⟩
  rw [World.cell?_of_block (w := w1) (by rw [Below.heap_setCell _ _ _ _ (by simp <;> omega), Below.heap_setCell _ _ _ _ (by simp <;> omega), Below.heap_setCell _ _ _ _ (by simp <;> omega)])]
  simp at hi
  have : i = 0 ∨ i = 1 ∨ i = 2 ∨ i = 3 := by omega
  rcases this with rfl | rfl | rfl | rfl <;> simp [World.cell?, unhide HR]

set_option maxHeartbeats 8000000 in
theorem addr1_any (k : Int) (hk0 : 0 ≤ k) (hk1 : k ≤ 255) (hk : (k % 3 == 0) = false) (hk' : (k % 3 == 1) = true) (b0 b1 b2 b3 b4 b5 b6 b7 b8 b9 b10 b11 b12 b13 b14 b15 : Int) (h0 : isB b0) (h1 : isB b1) (h2 : isB b2) (h3 : isB b3) (h4 : isB b4) (h5 : isB b5) (h6 : isB b6) (h7 : isB b7) (h8 : isB b8) (h9 : isB b9) (h10 : isB b10) (h11 : isB b11) (h12 : isB b12) (h13 : isB b13) (h14 : isB b14) (h15 : isB b15) (a4 a6 : Addr) (w : World) (hG : Gl w a4 a6) :
    Calls Ybad.prog 4 #[.int .u8 k, .agg #[.int .u8 b0, .int .u8 b1, .int .u8 b2, .int .u8 b3, .int .u8 b4, .int .u8 b5, .int .u8 b6, .int .u8 b7, .int .u8 b8, .int .u8 b9, .int .u8 b10, .int .u8 b11, .int .u8 b12, .int .u8 b13, .int .u8 b14, .int .u8 b15]] w fun e w' => ∃ rv, e = .returned (.tuple #[.agg #[.int .u64 (be8 b0 b1 b2 b3 b4 b5 b6 b7), .int .u64 (be8 b8 b9 b10 b11 b12 b13 b14 b15), .pointer (some a6)], rv]) ∧ Src w' rv [b0, b1, b2, b3, b4, b5, b6, b7, b8, b9, b10, b11, b12, b13, b14, b15] ∧ Below w.heap.size w w' := by
  have hcp1 := (copy_last ((w.alloc (.cells #[.int .u8 b0, .int .u8 b1, .int .u8 b2, .int .u8 b3, .int .u8 b4, .int .u8 b5, .int .u8 b6, .int .u8 b7, .int .u8 b8, .int .u8 b9, .int .u8 b10, .int .u8 b11, .int .u8 b12, .int .u8 b13, .int .u8 b14, .int .u8 b15] 23)).alloc (.cells #[.int .u64 0, .int .u64 0, .pointer none] 32)) 5 3 #[.int .u8 0, .int .u8 0, .int .u8 0, .int .u8 0, .int .u8 0, .int .u8 0, .int .u8 0, .int .u8 0, .int .u8 0, .int .u8 0, .int .u8 0, .int .u8 0, .int .u8 0, .int .u8 0, .int .u8 0, .int .u8 0] (w.heap.size + 1 + 1) 16 16 16 w.heap.size [b0, b1, b2, b3, b4, b5, b6, b7, b8, b9, b10, b11, b12, b13, b14, b15] (by simp) rfl rfl (by omega) (fun j hj => by
    rw [cell_in2]
    have : j = 0 ∨ j = 1 ∨ j = 2 ∨ j = 3 ∨ j = 4 ∨ j = 5 ∨ j = 6 ∨ j = 7 ∨ j = 8 ∨ j = 9 ∨ j = 10 ∨ j = 11 ∨ j = 12 ∨ j = 13 ∨ j = 14 ∨ j = 15 := by omega
    rcases this with rfl | rfl | rfl | rfl | rfl | rfl | rfl | rfl | rfl | rfl | rfl | rfl | rfl | rfl | rfl | rfl <;> simp)).1
  have hmk := mk16
  simp only [bs, List.map_cons, List.map_nil] at hcp1
  go_enter Ybad.func4, Ybad.ntmps4
  go_wp2_with fail
  refine (from16_any b0 b1 b2 b3 b4 b5 b6 b7 b8 b9 b10 b11 b12 b13 b14 b15 h0 h1 h2 h3 h4 h5 h6 h7 h8 h9 h10 h11 h12 h13 h14 h15 a4 a6 _ ?_).mono ?_
  · exact ((hG.al _).al _).al _
  rintro e w1 ⟨rfl, hb⟩
  have hbk : w1.heap[w.heap.size + 1]? = some (.cells #[.int .u64 0, .int .u64 0, .pointer none] 32 (0, 0)) := by
    rw [hb.block _ (by simp <;> omega), Below.heap_alloc _ _ _ (by simp), show w.heap.size + 1 = (w.alloc (.cells #[.int .u8 b0, .int .u8 b1, .int .u8 b2, .int .u8 b3, .int .u8 b4, .int .u8 b5, .int .u8 b6, .int .u8 b7, .int .u8 b8, .int .u8 b9, .int .u8 b10, .int .u8 b11, .int .u8 b12, .int .u8 b13, .int .u8 b14, .int .u8 b15] 23)).heap.size by simp, heap_alloc_new]
  have hraw : w1.heap[w.heap.size + 1 + 1]? = some (.cells #[.int .u8 b0, .int .u8 b1, .int .u8 b2, .int .u8 b3, .int .u8 b4, .int .u8 b5, .int .u8 b6, .int .u8 b7, .int .u8 b8, .int .u8 b9, .int .u8 b10, .int .u8 b11, .int .u8 b12, .int .u8 b13, .int .u8 b14, .int .u8 b15] 5 (0, 0)) := by
    rw [hb.block _ (by simp), show w.heap.size + 1 + 1 = ((w.alloc (.cells #[.int .u8 b0, .int .u8 b1, .int .u8 b2, .int .u8 b3, .int .u8 b4, .int .u8 b5, .int .u8 b6, .int .u8 b7, .int .u8 b8, .int .u8 b9, .int .u8 b10, .int .u8 b11, .int .u8 b12, .int .u8 b13, .int .u8 b14, .int .u8 b15] 23)).alloc (.cells #[.int .u64 0, .int .u64 0, .pointer none] 32)).heap.size by simp, heap_alloc_new]
  have hbw : Below w.heap.size w w1 := (((Below.refl w.heap.size w).alloc (Nat.le_refl _) (.cells #[.int .u8 b0, .int .u8 b1, .int .u8 b2, .int .u8 b3, .int .u8 b4, .int .u8 b5, .int .u8 b6, .int .u8 b7, .int .u8 b8, .int .u8 b9, .int .u8 b10, .int .u8 b11, .int .u8 b12, .int .u8 b13, .int .u8 b14, .int .u8 b15] 23)).alloc (by simp) (.cells #[.int .u64 0, .int .u64 0, .pointer none] 32)).alloc (by simp <;> omega) _ |>.trans (hb.mono (by simp <;> omega))
  have c0 : w1.cell? ⟨w.heap.size + 1, 0, none⟩ = some (.int .u64 0) := by simp [World.cell?, hbk]
  have c1 : w1.cell? ⟨w.heap.size + 1, 1, none⟩ = some (.int .u64 0) := by simp [World.cell?, hbk]
  have c2 : w1.cell? ⟨w.heap.size + 1, 2, none⟩ = some (.pointer none) := by simp [World.cell?, hbk]
  have f0 : w1.frozen? ⟨w.heap.size + 1, 0, none⟩ = false := by simp [World.frozen?, hbk]
  have f1 : w1.frozen? ⟨w.heap.size + 1, 1, none⟩ = false := by simp [World.frozen?, hbk]
  have f2 : w1.frozen? ⟨w.heap.size + 1, 2, none⟩ = false := by simp [World.frozen?, hbk]
  have hsz : w.heap.size + 1 + 1 < w1.heap.size := (Array.getElem?_eq_some_iff.1 hraw).1
  have HR := hide hraw
  clear hcp1 hmk hG hb hbk hraw
  go_wp2
  refine bodyPost_ret (v := .tuple #[.agg #[.int .u64 (be8 b0 b1 b2 b3 b4 b5 b6 b7), .int .u64 (be8 b8 b9 b10 b11 b12 b13 b14 b15), .pointer (some a6)], .slice (some ⟨w.heap.size + 1 + 1, 0, none⟩) 16 16]) (by simp [results, Ybad.results4, go_sem, c0, c1, c2]) rfl ⟨_, rfl, ?_, ((hbw.setCell (by simp) _).setCell (by simp) _).setCell (by simp) _⟩
  refine .inr ⟨w.heap.size + 1 + 1, 16, rfl, by simp [World.setCell]; omega, fun i hi => ?_⟩
  rw [World.cell?_of_block (w := w1) (by rw [Below.heap_setCell _ _ _ _ (by simp <;> omega), Below.heap_setCell _ _ _ _ (by simp <;> omega), Below.heap_setCell _ _ _ _ (by simp <;> omega)])]
  simp at hi
  have : i = 0 ∨ i = 1 ∨ i = 2 ∨ i = 3 ∨ i = 4 ∨ i = 5 ∨ i = 6 ∨ i = 7 ∨ i = 8 ∨ i = 9 ∨ i = 10 ∨ i = 11 ∨ i = 12 ∨ i = 13 ∨ i = 14 ∨ i = 15 := by omega
  rcases this with rfl | rfl | rfl | rfl | rfl | rfl | rfl | rfl | rfl | rfl | rfl | rfl | rfl | rfl | rfl | rfl <;> simp [World.cell?, unhide HR]

set_option maxHeartbeats 4000000 in
theorem addr2_any (k : Int) (hk0 : 0 ≤ k) (hk1 : k ≤ 255) (hk : (k % 3 == 0) = false) (hk' : (k % 3 == 1) = false) (b0 b1 b2 b3 b4 b5 b6 b7 b8 b9 b10 b11 b12 b13 b14 b15 : Int) (w : World) :
    Calls Ybad.prog 4 #[.int .u8 k, .agg #[.int .u8 b0, .int .u8 b1, .int .u8 b2, .int .u8 b3, .int .u8 b4, .int .u8 b5, .int .u8 b6, .int .u8 b7, .int .u8 b8, .int .u8 b9, .int .u8 b10, .int .u8 b11, .int .u8 b12, .int .u8 b13, .int .u8 b14, .int .u8 b15]] w fun e w' => e = .returned (.tuple #[.agg #[.int .u64 0, .int .u64 0, .pointer none], .slice none 0 0]) ∧ Below w.heap.size w w' := by
  go_enter Ybad.func4, Ybad.ntmps4
  go_wp2
  exact bodyPost_ret (v := .tuple #[.agg #[.int .u64 0, .int .u64 0, .pointer none], .slice none 0 0]) (by simp [results, Ybad.results4, go_sem]) rfl ⟨rfl, ((Below.refl _ _).alloc (Nat.le_refl _) _).alloc (by simp) _⟩

#print axioms addr0_any
#print axioms addr1_any
#print axioms addr2_any
end Go.Proofs.YbulkbrvqDoor
