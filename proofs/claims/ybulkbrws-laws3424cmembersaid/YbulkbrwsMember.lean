/-
  The law's own walk: LawS3424CMember.
-/
import Derived.Test.YbulkbrwsGave
namespace Go.Proofs.Ybulkbrws
open Go.ChangeShapes Go.WideShapes Go.ChangeAt Go.RowKit

set_option maxHeartbeats 1000000 in
theorem member_long0 (a b s : Int) (a0 : Option Addr) (n0 c0 : Nat) (a1 : Option Addr) (n1 c1 : Nat) (e : ByteArray) (w : World) (h : 1024 < n0) (hm : n0 ≤ maxLen) :
    Calls Yba.prog 3 #[.agg (IN a b s a0 n0 c0 a1 n1 c1 e)] w fun en w' => en = .returned (.bool true) ∧ Below w.heap.size w w' := by
  unfold maxLen at hm
  have h' : (1024 : Int) < (n0 : Int) := by omega
  go_enter Yba.func3, Yba.ntmps3
  go_wp2
  go_ret
  exact ⟨rfl, (Below.refl _ _).alloc (Nat.le_refl _) _⟩

set_option maxHeartbeats 1000000 in
theorem member_long1 (a b s : Int) (a0 : Option Addr) (n0 c0 : Nat) (a1 : Option Addr) (n1 c1 : Nat) (e : ByteArray) (w : World) (h0 : n0 ≤ 1024) (h : 1024 < n1) (hm : n1 ≤ maxLen) :
    Calls Yba.prog 3 #[.agg (IN a b s a0 n0 c0 a1 n1 c1 e)] w fun en w' => en = .returned (.bool true) ∧ Below w.heap.size w w' := by
  unfold maxLen at hm
  have h' : (1024 : Int) < (n1 : Int) := by omega
  have h'' : ¬ (1024 : Int) < (n0 : Int) := by omega
  go_enter Yba.func3, Yba.ntmps3
  go_wp2
  go_ret
  exact ⟨rfl, (Below.refl _ _).alloc (Nat.le_refl _) _⟩

set_option maxHeartbeats 4000000 in
theorem member_any (a b s : Int) (a0 : Option Addr) (c0 : Nat) (S0 : List ByteArray) (a1 : Option Addr) (c1 : Nat) (S1 : List ByteArray) (e : ByteArray) (w : World) (h0 : SRow w a0 c0 S0) (h1 : SRow w a1 c1 S1) (n0 : S0.length ≤ 1024) (n1 : S1.length ≤ 1024) :
    Calls Yba.prog 3 #[.agg (IN a b s a0 S0.length c0 a1 S1.length c1 e)] w fun en w' => en = .returned (.bool true) ∧ Below w.heap.size w w' := by
  have h' : ¬ (1024 : Int) < (S0.length : Int) := by omega
  have h'' : ¬ (1024 : Int) < (S1.length : Int) := by omega
  have hw1 : Below w.heap.size w (w.alloc (.cells (IN a b s a0 S0.length c0 a1 S1.length c1 e) 24)) := (Below.refl _ _).alloc (Nat.le_refl _) _
  have hx1 := heap_alloc_new w (.cells (IN a b s a0 S0.length c0 a1 S1.length c1 e) 24)
  have HW1 := hide hw1
  have HX1 := hide hx1
  clear hw1 hx1
  go_enter Yba.func3, Yba.ntmps3
  go_wp2_with fail
  refine (build_any a b s a0 c0 S0 a1 c1 S1 e _ (h0.below (unhide HW1)) (h1.below (unhide HW1)) n0 n1).mono ?_
  rintro en w2 ⟨k, sl, ⟨G, p0, p1, rfl, hC, hp0, hp1, ho0, ho1, hG, hb2⟩, hcase⟩
  have HX : Hid (w2.heap[w.heap.size]? = some (.cells (IN a b s a0 S0.length c0 a1 S1.length c1 e) 24 (0, 0))) := by
    show _ = _
    rw [hb2.block _ (by simp)]; exact unhide HX1
  have HBW : Hid (Below w.heap.size w w2) := (unhide HW1).trans (hb2.mono (by simp))
  have HC := hide hC
  have HP0 := hide hp0
  have HP1 := hide hp1
  have hsz2 : w.heap.size < w2.heap.size := (Array.getElem?_eq_some_iff.1 (unhide HX)).1
  clear hC hp0 hp1 ho0 ho1 hb2 HW1 HX1 hG
  rcases hcase with ⟨rfl, rfl⟩ | ⟨rfl, rfl, hab⟩
  · go_wp2_with (first
      | (refine wpList_alloc_run rfl 27 rfl (alloc27 _) ?_)
      | (refine wpList_store_block rfl 27 (.tmp 4) (.tmp 23) rfl w2.heap.size Z32 (KC k) 27 rfl rfl (heap_alloc_new w2 (.cells Z32 27)) rfl (i27 k) (KC_one k) ?_))
    intro w3 hb3 hg3
    have hB3 : Below w2.heap.size w2 w3 := ((Below.refl _ _).alloc (Nat.le_refl _) _).grown hg3 (by simp) (fun k h => by cases h; omega)
    have HC3 := hide ((unhide HC).below hB3)
    have HT0 := hide ((unhide HP0).below hB3)
    have HT1 := hide ((unhide HP1).below hB3)
    have HK3 := hide hb3
    have HX3 : Hid (w3.heap[w.heap.size]? = some (.cells (IN k b s a0 S0.length c0 a1 S1.length c1 e) 24 (0, 0))) := by
      show _ = _
      rw [hB3.block _ (by omega)]; exact unhide HX
    have hBw3 : Below w.heap.size w w3 := (unhide HBW).trans (hB3.mono (by omega))
    have HU0 := hide (h0.below hBw3)
    have HU1 := hide (h1.below hBw3)
    have i3 : w3.cell? ⟨w.heap.size, 3, none⟩ = some (.slice a0 S0.length c0) := by rw [cell_of_row w3 _ _ _ 24 (0, 0) (unhide HX3)]; rfl
    have i4 : w3.cell? ⟨w.heap.size, 4, none⟩ = some (.slice a1 S1.length c1) := by rw [cell_of_row w3 _ _ _ 24 (0, 0) (unhide HX3)]; rfl
    have i5 : w3.cell? ⟨w.heap.size, 5, none⟩ = some (.string e) := by rw [cell_of_row w3 _ _ _ 24 (0, 0) (unhide HX3)]; rfl
    have hsz3 : w.heap.size < w3.heap.size := (Array.getElem?_eq_some_iff.1 (unhide HX3)).1
    clear hb3 hg3 hB3 HC HP0 HP1 HX HBW
    go_wp2_with fail
    refine (has_any a0 c0 S0 e w3 (unhide HU0) (by omega)).mono ?_
    rintro en w' ⟨rfl, heqw⟩
    replace heqw := heqw.symm
    subst heqw
    go_wp2_with (first
      | fail
      | (refine wpList_load_row rfl 27 (.tmp 4) rfl w2.heap.size rfl 27 (KC k) (0, 0) _ (unhide HK3) Yba.underlying27 rfl (i27 k) ?_))
    refine (gave_0 G e k (KC b) p0 S0.length S0 (.slice p1 S1.length S1.length) w3 (unhide HC3) (unhide HT0) (by omega)).mono ?_
    rintro en w4 ⟨rfl, hb4⟩
    have HC4 := hide ((unhide HC3).below hb4)
    have hBw4 : Below w.heap.size w w4 := hBw3.trans (hb4.mono (by omega))
    have HX4 : Hid (w4.heap[w.heap.size]? = some (.cells (IN k b s a0 S0.length c0 a1 S1.length c1 e) 24 (0, 0))) := by
      show _ = _
      rw [hb4.block _ hsz3]; exact unhide HX3
    have j3 : w4.cell? ⟨w.heap.size, 3, none⟩ = some (.slice a0 S0.length c0) := by rw [cell_of_row w4 _ _ _ 24 (0, 0) (unhide HX4)]; rfl
    have j4 : w4.cell? ⟨w.heap.size, 4, none⟩ = some (.slice a1 S1.length c1) := by rw [cell_of_row w4 _ _ _ 24 (0, 0) (unhide HX4)]; rfl
    have j5 : w4.cell? ⟨w.heap.size, 5, none⟩ = some (.string e) := by rw [cell_of_row w4 _ _ _ 24 (0, 0) (unhide HX4)]; rfl
    have e1 := (unhide HC4).etag
    have e2 := (unhide HC4).at0
    have e3 := (unhide HC4).at1
    clear i3 i4 i5 hb4 HC3 HT0 HT1 HU0 HU1 HK3 HX3 HX4
    go_wp2
    go_quiet (fail)
    go_wp2
    go_ret
    exact ⟨rfl, ⟨hBw4.os, hBw4.tape, hBw4.output, hBw4.size, hBw4.block⟩⟩

  · go_wp2_with (first
      | (refine wpList_alloc_run rfl 27 rfl (alloc27 _) ?_)
      | (refine wpList_store_block rfl 27 (.tmp 4) (.tmp 23) rfl w2.heap.size Z32 (KC k) 27 rfl rfl (heap_alloc_new w2 (.cells Z32 27)) rfl (i27 k) (KC_one k) ?_))
    intro w3 hb3 hg3
    have hB3 : Below w2.heap.size w2 w3 := ((Below.refl _ _).alloc (Nat.le_refl _) _).grown hg3 (by simp) (fun k h => by cases h; omega)
    have HC3 := hide ((unhide HC).below hB3)
    have HT0 := hide ((unhide HP0).below hB3)
    have HT1 := hide ((unhide HP1).below hB3)
    have HK3 := hide hb3
    have HX3 : Hid (w3.heap[w.heap.size]? = some (.cells (IN a k s a0 S0.length c0 a1 S1.length c1 e) 24 (0, 0))) := by
      show _ = _
      rw [hB3.block _ (by omega)]; exact unhide HX
    have hBw3 : Below w.heap.size w w3 := (unhide HBW).trans (hB3.mono (by omega))
    have HU0 := hide (h0.below hBw3)
    have HU1 := hide (h1.below hBw3)
    have i3 : w3.cell? ⟨w.heap.size, 3, none⟩ = some (.slice a0 S0.length c0) := by rw [cell_of_row w3 _ _ _ 24 (0, 0) (unhide HX3)]; rfl
    have i4 : w3.cell? ⟨w.heap.size, 4, none⟩ = some (.slice a1 S1.length c1) := by rw [cell_of_row w3 _ _ _ 24 (0, 0) (unhide HX3)]; rfl
    have i5 : w3.cell? ⟨w.heap.size, 5, none⟩ = some (.string e) := by rw [cell_of_row w3 _ _ _ 24 (0, 0) (unhide HX3)]; rfl
    have hsz3 : w.heap.size < w3.heap.size := (Array.getElem?_eq_some_iff.1 (unhide HX3)).1
    clear hb3 hg3 hB3 HC HP0 HP1 HX HBW
    go_wp2_with fail
    refine (has_any a1 c1 S1 e w3 (unhide HU1) (by omega)).mono ?_
    rintro en w' ⟨rfl, heqw⟩
    replace heqw := heqw.symm
    subst heqw
    go_wp2_with (first
      | fail
      | (refine wpList_load_row rfl 27 (.tmp 4) rfl w2.heap.size rfl 27 (KC k) (0, 0) _ (unhide HK3) Yba.underlying27 rfl (i27 k) ?_))
    refine (gave_1 G e a k hab (.slice p0 S0.length S0.length) p1 S1.length S1 w3 (unhide HC3) (unhide HT1) (by omega)).mono ?_
    rintro en w4 ⟨rfl, hb4⟩
    have HC4 := hide ((unhide HC3).below hb4)
    have hBw4 : Below w.heap.size w w4 := hBw3.trans (hb4.mono (by omega))
    have HX4 : Hid (w4.heap[w.heap.size]? = some (.cells (IN a k s a0 S0.length c0 a1 S1.length c1 e) 24 (0, 0))) := by
      show _ = _
      rw [hb4.block _ hsz3]; exact unhide HX3
    have j3 : w4.cell? ⟨w.heap.size, 3, none⟩ = some (.slice a0 S0.length c0) := by rw [cell_of_row w4 _ _ _ 24 (0, 0) (unhide HX4)]; rfl
    have j4 : w4.cell? ⟨w.heap.size, 4, none⟩ = some (.slice a1 S1.length c1) := by rw [cell_of_row w4 _ _ _ 24 (0, 0) (unhide HX4)]; rfl
    have j5 : w4.cell? ⟨w.heap.size, 5, none⟩ = some (.string e) := by rw [cell_of_row w4 _ _ _ 24 (0, 0) (unhide HX4)]; rfl
    have e1 := (unhide HC4).etag
    have e2 := (unhide HC4).at0
    have e3 := (unhide HC4).at1
    clear i3 i4 i5 hb4 HC3 HT0 HT1 HU0 HU1 HK3 HX3 HX4
    go_wp2
    go_quiet (fail)
    go_wp2
    go_ret
    exact ⟨rfl, ⟨hBw4.os, hBw4.tape, hBw4.output, hBw4.size, hBw4.block⟩⟩


#print axioms member_any
end Go.Proofs.Ybulkbrws
