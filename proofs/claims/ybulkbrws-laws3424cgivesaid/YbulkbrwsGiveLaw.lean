/-
  The law's own walk: LawS3424CGive.
-/
import Derived.Test.YbulkbrwsGive
namespace Go.Proofs.Ybulkbrws
open Go.ChangeShapes Go.WideShapes Go.ChangeAt Go.RowKit

theorem abs_act2 {P : Program} {c : Code} {Q : Exit → Act → World → Prop} {w : World} {a : Act} (F : Act → Prop) (hF : F a) (h : ∀ ac, F ac → Hid (ac = a) → Code.wp P c Q ac w) : Code.wp P c Q a w := h a hF rfl
def F15 (B G R : Nat) (v : Value) (ac : Act) : Prop :=
  ac.tmps.size = 93 ∧ ac.eval (.tmp 1) = .pointer (some ⟨B, 0, none⟩) ∧ ac.eval (.tmp 3) = .pointer (some ⟨G, 0, none⟩) ∧ ac.eval (.tmp 4) = .pointer (some ⟨R, 0, none⟩) ∧ ac.eval (.tmp 8) = v

theorem abs_h {P : Program} {md : Region.Mode} {ops : Array Oper} {Q : Exit → Act → World → Prop} {S : World → Prop} {fuel : Nat} {listed : Array Bool} {w : World} {a : Act} (F : Act → Prop) (hF : F a) (h : ∀ ac, F ac → Hid (ac = a) → wpAnyH P md ops Q S fuel listed ac w) : wpAnyH P md ops Q S fuel listed a w := h a hF rfl
def F15b (v8 v62 v65 : Value) (ac : Act) : Prop := ac.tmps.size = 93 ∧ ac.eval (.tmp 8) = v8 ∧ ac.eval (.tmp 62) = v62 ∧ ac.eval (.tmp 65) = v65

theorem Chan.drewN {w : World} {G : Nat} {e : ByteArray} {KA KB : Array Value} {g0 g1 : Value} (h : Chan w G e KA KB g0 g1) (n : Nat) : Chan (w.drewN n) G e KA KB g0 g1 := h.below ⟨rfl, rfl, rfl, Nat.le_refl _, fun _ _ => rfl⟩
theorem reads_r (G : Nat) (e : ByteArray) (KA KB : Array Value) (p0 : Option Addr) (n0 c0 : Nat) (p1 : Option Addr) (n1 c1 : Nat) (r : Int) (w : World) (hC : Chan w G e KA KB (.slice p0 n0 c0) (.slice p1 n1 c1)) (h0 : n0 ≤ 2000) (h1 : n1 ≤ 2000) (hr : (n0 : Int) + n1 = r) :
    Calls Yba.prog 9 #[.pointer (some ⟨G, 0, none⟩)] w fun en w' => en = .returned (.int .i64 r) ∧ ∃ nq, w' = w.drewN nq := by
  subst hr
  exact reads_any G e KA KB p0 n0 c0 p1 n1 c1 w hC h0 h1

theorem has_last (Ss : List ByteArray) (e : ByteArray) : hasB (Ss ++ [e]) e = true := by simp [hasB]

theorem yieldsIf_load_row {P : Program} {ops : Array Oper} {S : World → Prop} {op : Oper} {a : Act} (hw : Region.wanted op (yielded ops a.tmps) = true) (ty : TypeId) (x : Operand) (ho : op.op = .load ty x)
    (g : Nat) (hx : a.eval x = .pointer (some ⟨g, 0, none⟩)) (t : TypeId) (cs : Array Value) (d : TypeDesc) (hS : ∀ w, S w → w.heap[g]? = some (.cells cs t (0, 0)))
    (hu : P.underlying ty = some d) (hd : (match d with | .struct _ | .array _ _ => true | _ => false) = true) (hi : (P.info? ty).map (·.size) = some cs.size) : YieldsIf P ops S op (.agg cs) a :=
  .inl ⟨hw, fun w hw' => by
    unfold execOp
    simp only [ho, hx, Instr.loadAt, Instr.sureAddr, Sem.run_bind, Sem.run_pure, Result.andThen_ok, run_loadVar_row w g t ty cs (0, 0) d (hS w hw') hu hd hi]⟩

set_option maxHeartbeats 1000000 in
theorem give_long0 (a b s : Int) (a0 : Option Addr) (n0 c0 : Nat) (a1 : Option Addr) (n1 c1 : Nat) (e : ByteArray) (w : World) (h : 1024 < n0) (hm : n0 ≤ maxLen) :
    Calls Yba.prog 4 #[.agg (IN a b s a0 n0 c0 a1 n1 c1 e)] w fun en w' => en = .returned (.bool true) ∧ Below w.heap.size w w' := by
  unfold maxLen at hm
  have h' : (1024 : Int) < (n0 : Int) := by omega
  go_enter Yba.func4, Yba.ntmps4
  go_wp2
  go_ret
  exact ⟨rfl, (Below.refl _ _).alloc (Nat.le_refl _) _⟩

set_option maxHeartbeats 1000000 in
theorem give_long1 (a b s : Int) (a0 : Option Addr) (n0 c0 : Nat) (a1 : Option Addr) (n1 c1 : Nat) (e : ByteArray) (w : World) (h0 : n0 ≤ 1024) (h : 1024 < n1) (hm : n1 ≤ maxLen) :
    Calls Yba.prog 4 #[.agg (IN a b s a0 n0 c0 a1 n1 c1 e)] w fun en w' => en = .returned (.bool true) ∧ Below w.heap.size w w' := by
  unfold maxLen at hm
  have h' : (1024 : Int) < (n1 : Int) := by omega
  have h'' : ¬ (1024 : Int) < (n0 : Int) := by omega
  go_enter Yba.func4, Yba.ntmps4
  go_wp2
  go_ret
  exact ⟨rfl, (Below.refl _ _).alloc (Nat.le_refl _) _⟩

set_option linter.unusedSimpArgs false in
set_option maxHeartbeats 8000000 in
theorem givelaw_any (a b s : Int) (a0 : Option Addr) (c0 : Nat) (S0 : List ByteArray) (a1 : Option Addr) (c1 : Nat) (S1 : List ByteArray) (e : ByteArray) (w : World) (h0 : SRow w a0 c0 S0) (h1 : SRow w a1 c1 S1) (n0 : S0.length ≤ 1024) (n1 : S1.length ≤ 1024) :
    Calls Yba.prog 4 #[.agg (IN a b s a0 S0.length c0 a1 S1.length c1 e)] w fun en w' => en = .returned (.bool true) ∧ Below w.heap.size w w' := by
  have h' : ¬ (1024 : Int) < (S0.length : Int) := by omega
  have h'' : ¬ (1024 : Int) < (S1.length : Int) := by omega
  have hw1 : Below w.heap.size w (w.alloc (.cells (IN a b s a0 S0.length c0 a1 S1.length c1 e) 24)) := (Below.refl _ _).alloc (Nat.le_refl _) _
  have hx1 := heap_alloc_new w (.cells (IN a b s a0 S0.length c0 a1 S1.length c1 e) 24)
  have HW1 := hide hw1
  have HX1 := hide hx1
  clear hw1 hx1
  go_enter Yba.func4, Yba.ntmps4
  go_wp2_with fail
  refine (build_any a b s a0 c0 S0 a1 c1 S1 e _ (h0.below (unhide HW1)) (h1.below (unhide HW1)) n0 n1).mono ?_
  rintro en w2 ⟨k, sl, ⟨G, p0, p1, rfl, hC, hp0, hp1, ho0, ho1, hG, hb2⟩, hcase⟩
  have HX : Hid (w2.heap[w.heap.size]? = some (.cells (IN a b s a0 S0.length c0 a1 S1.length c1 e) 24 (0, 0))) := by
    show _ = _
    rw [hb2.block _ (by simp)]; exact unhide HX1
  have HBW : Hid (Below w.heap.size w w2) := (unhide HW1).trans (hb2.mono (by simp))
  have HC := hide hC
  have HP0 := hide hp0
  have HP1 := hide hp1
  have hsz2 : w.heap.size < w2.heap.size := (Array.getElem?_eq_some_iff.1 (unhide HX)).1
  have hGw : w.heap.size < G := by simp at hG; omega
  clear hC hp0 hp1 ho0 ho1 hb2 HW1 HX1 hG
  rcases hcase with ⟨rfl, rfl⟩ | ⟨rfl, rfl, hab⟩
  · go_wp2_with (first
      | (refine wpList_alloc_run rfl 27 rfl (alloc27 _) ?_)
      | (refine wpList_store_block rfl 27 (.tmp 4) (.tmp 25) rfl w2.heap.size Z32 (KC k) 27 rfl rfl (heap_alloc_new w2 (.cells Z32 27)) rfl (i27 k) (KC_one k) ?_))
    intro w3 hb3 hg3
    have hB3 : Below w2.heap.size w2 w3 := ((Below.refl _ _).alloc (Nat.le_refl _) _).grown hg3 (by simp) (fun k h => by cases h; omega)
    have HC3 := hide ((unhide HC).below hB3)
    have HT0 := hide ((unhide HP0).below hB3)
    have HT1 := hide ((unhide HP1).below hB3)
    have HK3 := hide hb3
    have HX3 : Hid (w3.heap[w.heap.size]? = some (.cells (IN k b s a0 S0.length c0 a1 S1.length c1 e) 24 (0, 0))) := by
      show _ = _
      rw [hB3.block _ (by omega)]; exact unhide HX
    have hBw3 : Below w.heap.size w w3 := (unhide HBW).trans (hB3.mono (by omega))
    have HU0 := hide (h0.below hBw3)
    have HU1 := hide (h1.below hBw3)
    have i3 : w3.cell? ⟨w.heap.size, 3, none⟩ = some (.slice a0 S0.length c0) := by rw [cell_of_row w3 _ _ _ 24 (0, 0) (unhide HX3)]; rfl
    have i4 : w3.cell? ⟨w.heap.size, 4, none⟩ = some (.slice a1 S1.length c1) := by rw [cell_of_row w3 _ _ _ 24 (0, 0) (unhide HX3)]; rfl
    have i5 : w3.cell? ⟨w.heap.size, 5, none⟩ = some (.string e) := by rw [cell_of_row w3 _ _ _ 24 (0, 0) (unhide HX3)]; rfl
    have hsz3 : w2.heap.size < w3.heap.size := (Array.getElem?_eq_some_iff.1 (unhide HK3)).1
    have hGlt := (unhide HC).lt
    clear hb3 hg3 hB3 HC HP0 HP1 HX HBW
    go_wp2_with fail
    refine (has_any a0 c0 S0 e w3 (unhide HU0) (by omega)).mono ?_
    rintro en w' ⟨rfl, heqw⟩
    replace heqw := heqw.symm
    subst heqw
    go_wp2_with (first
      | fail
      | (refine wpList_load_row rfl 27 (.tmp 4) rfl w2.heap.size rfl 27 (KC k) (0, 0) _ (unhide HK3) Yba.underlying27 rfl (i27 k) ?_))
    refine (gave_0 G e k (KC b) p0 S0.length S0 (.slice p1 S1.length S1.length) w3 (unhide HC3) (unhide HT0) (by omega)).mono ?_
    rintro en w4 ⟨rfl, hb4⟩
    have HC4 := hide ((unhide HC3).below hb4)
    have HT4 := hide ((unhide HT0).below hb4)
    have hBw4 : Below w.heap.size w w4 := hBw3.trans (hb4.mono (by omega))
    have HX4 : Hid (w4.heap[w.heap.size]? = some (.cells (IN k b s a0 S0.length c0 a1 S1.length c1 e) 24 (0, 0))) := by
      show _ = _
      rw [hb4.block _ (by omega)]; exact unhide HX3
    have HK4 : Hid (w4.heap[w2.heap.size]? = some (.cells (KC k) 27 (0, 0))) := by
      show _ = _
      rw [hb4.block _ hsz3]; exact unhide HK3
    have hsz4 : w2.heap.size < w4.heap.size := (Array.getElem?_eq_some_iff.1 (unhide HK4)).1
    clear i3 i4 i5 hb4 HC3 HT0 HT1 HU0 HU1 HK3 HX3 hBw3 hsz3
    by_cases hem : e.toList.isEmpty = true
    · have hemp := hem
      go_wp2_with (first
        | fail
        | (refine wpList_load_row rfl 27 (.tmp 4) rfl w2.heap.size rfl 27 (KC k) (0, 0) _ (unhide HK4) Yba.underlying27 rfl (i27 k) ?_))
      refine (give_no_0 G e k (KC b) p0 S0 (.slice p1 S1.length S1.length) w4 (unhide HC4) (unhide HT4) (by omega) (.inl hem)).mono ?_
      rintro en w5 ⟨rfl, hb5⟩
      have HC5 := hide ((unhide HC4).below hb5)
      have HS5 := hide ((unhide HT4).below hb5)
      have hBw5 : Below w.heap.size w w5 := hBw4.trans (hb5.mono (by omega))
      have HX5 : Hid (w5.heap[w.heap.size]? = some (.cells (IN k b s a0 S0.length c0 a1 S1.length c1 e) 24 (0, 0))) := by
        show _ = _
        rw [hb5.block _ (by omega)]; exact unhide HX4
      have HK5 : Hid (w5.heap[w2.heap.size]? = some (.cells (KC k) 27 (0, 0))) := by
        show _ = _
        rw [hb5.block _ hsz4]; exact unhide HK4
      have i3 : w5.cell? ⟨w.heap.size, 3, none⟩ = some (.slice a0 S0.length c0) := by rw [cell_of_row w5 _ _ _ 24 (0, 0) (unhide HX5)]; rfl
      have i4 : w5.cell? ⟨w.heap.size, 4, none⟩ = some (.slice a1 S1.length c1) := by rw [cell_of_row w5 _ _ _ 24 (0, 0) (unhide HX5)]; rfl
      have i5 : w5.cell? ⟨w.heap.size, 5, none⟩ = some (.string e) := by rw [cell_of_row w5 _ _ _ 24 (0, 0) (unhide HX5)]; rfl
      have hszK : w2.heap.size < w5.heap.size := (Array.getElem?_eq_some_iff.1 (unhide HK5)).1
      clear HC4 HT4 HX4 HK4 hb5 hBw4 hsz4
      go_wp2
      refine abs_act2 (F15 w.heap.size G w2.heap.size (.bool (hasB S0 e))) ⟨rfl, rfl, rfl, rfl, rfl⟩ ?_
      rintro ac ⟨fz, f1, f3, f4, f8⟩ heq
      refine wp_region_held (S := fun W => W.heap[w2.heap.size]? = some (.cells (KC k) 27 (0, 0)) ∧ W.cell? ⟨w.heap.size, 5, none⟩ = some (.string e)) (by kernel_rfl) ?_
      try (change wpAnyH _ _ _ _ _ _ _ _ (World.drew _))
      have hSd : w5.drew.heap[w2.heap.size]? = some (.cells (KC k) 27 (0, 0)) ∧ w5.drew.cell? ⟨w.heap.size, 5, none⟩ = some (.string e) := ⟨unhide HK5, i5⟩
      refine wpAnyH_take (i := 0) (v := .pointer (some ⟨G, 0, none⟩)) rfl (by kernel_rfl) (by kernel_rfl) (by kernel_rfl) (fun _ _ _ h => h) (Or.inl ⟨by rfl, fun W _ => by simp [execOp, eval_ne, eval_eq, put_size, fz, f1, f3, f4, f8] <;> go_simp⟩) hSd ?_
      change wpAnyH _ _ _ _ _ _ _ (ac.put (some 60) _) _
      refine wpAnyH_take (i := 3) (v := .pointer (some ⟨w.heap.size, 5, none⟩)) rfl (by kernel_rfl) (by kernel_rfl) (by kernel_rfl) (fun _ _ _ h => h) (Or.inl ⟨by rfl, fun W _ => by simp [execOp, eval_ne, eval_eq, put_size, fz, f1, f3, f4, f8] <;> go_simp⟩) hSd ?_
      change wpAnyH _ _ _ _ _ _ _ ((ac.put (some 60) _).put (some 63) _) _
      refine wpAnyH_take (i := 1) (v := .agg (KC k)) rfl (by kernel_rfl) (by kernel_rfl) (by kernel_rfl) (fun _ _ _ h => h) (yieldsIf_load_row (by rfl) 27 (.tmp 4) rfl w2.heap.size (by simp [eval_ne, f4]) 27 (KC k) _ (fun W hW => hW.1) Yba.underlying27 rfl (i27 k)) hSd ?_
      change wpAnyH _ _ _ _ _ _ _ (((ac.put (some 60) _).put (some 63) _).put (some 61) _) _
      refine wpAnyH_take (i := 4) (v := .string e) rfl (by kernel_rfl) (by kernel_rfl) (by kernel_rfl) (fun _ _ _ h => h) (Or.inl ⟨by rfl, fun W hW => by have h5 := hW.2; simp [execOp, eval_ne, eval_eq, put_size, fz, f1, f3, f4, f8] <;> go_simp⟩) hSd ?_
      change wpAnyH _ _ _ _ _ _ _ ((((ac.put (some 60) _).put (some 63) _).put (some 61) _).put (some 64) _) _
      refine wpAnyH_take (i := 5) (v := .bool false) rfl (by kernel_rfl) (by kernel_rfl) (by kernel_rfl) (fun _ _ _ h => h) (Or.inl ⟨by rfl, fun W _ => by simp [execOp, eval_ne, eval_eq, put_size, fz, f1, f3, f4, f8] <;> go_simp⟩) hSd ?_
      change wpAnyH _ _ _ _ _ _ _ (((((ac.put (some 60) _).put (some 63) _).put (some 61) _).put (some 64) _).put (some 65) _) _
      rw [unhide heq]
      simp only [Act.put, List.setIfInBounds_toArray, List.set_cons_succ, List.set_cons_zero]
      clear heq fz f1 f3 f4 f8 ac
      refine wpAnyH_all (rs := [2]) (by kernel_rfl) (by simp) (fun i hi => ?_)
      obtain rfl : i = 2 := by simpa using hi
      refine wpOp_step rfl (fun K hK => ?_)
      go_simp
      go_wp2_with fail
      refine (gave_0 G e k (KC b) p0 S0.length S0 (.slice p1 S1.length S1.length) _ (unhide HC5).drew ((unhide HS5).below (Below.refl _ _).drew) (by first | omega | (simp; omega))).mono ?_
      rintro en w6 ⟨rfl, hb6⟩
      have HC6 := hide ((unhide HC5).drew.below hb6)
      have hBw6 : Below w.heap.size w w6 := hBw5.drew.trans (hb6.mono hBw5.size)
      have HX6 : Hid (w6.heap[w.heap.size]? = some (.cells (IN k b s a0 S0.length c0 a1 S1.length c1 e) 24 (0, 0))) := by
        show _ = _
        rw [hb6.block _ (by show w.heap.size < w5.heap.size; omega)]; exact unhide HX5
      have HK6 := hide ((hb6.block _ hszK).trans (unhide HK5))
      have k3 : w6.cell? ⟨w.heap.size, 3, none⟩ = some (.slice a0 S0.length c0) := by rw [cell_of_row w6 _ _ _ 24 (0, 0) (unhide HX6)]; rfl
      have k4 : w6.cell? ⟨w.heap.size, 4, none⟩ = some (.slice a1 S1.length c1) := by rw [cell_of_row w6 _ _ _ 24 (0, 0) (unhide HX6)]; rfl
      have k5 : w6.cell? ⟨w.heap.size, 5, none⟩ = some (.string e) := by rw [cell_of_row w6 _ _ _ 24 (0, 0) (unhide HX6)]; rfl
      clear HC5 HS5 HX5 HK5 hSd i3 i4 i5 hb6 hi
      go_wp2_with fail
      refine ⟨⟨unhide HK6, k5⟩, ?_⟩
      refine abs_h (F15b (.bool (hasB S0 e)) (.bool (hasB S0 e)) (.bool false)) ⟨rfl, rfl, rfl, rfl⟩ ?_
      rintro ac ⟨fz, f8, f62, f65⟩ heq
      have hSd : w6.heap[w2.heap.size]? = some (.cells (KC k) 27 (0, 0)) ∧ w6.cell? ⟨w.heap.size, 5, none⟩ = some (.string e) := ⟨unhide HK6, k5⟩
      refine wpAnyH_take (i := 6) (v := .bool false) rfl (by kernel_rfl) (by kernel_rfl) (by kernel_rfl) (fun _ _ _ h => h) (Or.inl ⟨by rfl, fun W _ => by simp [execOp, eval_ne, eval_eq, put_size, fz, f8, f62, f65] <;> go_simp⟩) hSd ?_
      change wpAnyH _ _ _ _ _ _ _ (ac.put (some 66) _) _
      refine wpAnyH_take (i := 7) (v := .bool (hasB S0 e)) rfl (by kernel_rfl) (by kernel_rfl) (by kernel_rfl) (fun _ _ _ h => h) (Or.inl ⟨by simp [Region.wanted, yielded, Act.put, fz], fun W _ => by simp [execOp, eval_ne, eval_eq, put_size, fz, f8, f62, f65] <;> go_simp⟩) hSd ?_
      change wpAnyH _ _ _ _ _ _ _ ((ac.put (some 66) _).put (some 67) _) _
      refine wpAnyH_take (i := 8) (v := .bool (hasB S0 e)) rfl (by kernel_rfl) (by kernel_rfl) (by kernel_rfl) (fun _ _ _ h => h) (Or.inl ⟨by rfl, fun W _ => by simp [execOp, eval_ne, eval_eq, put_size, fz, f8, f62, f65] <;> go_simp⟩) hSd ?_
      change wpAnyH _ _ _ _ _ _ _ (((ac.put (some 66) _).put (some 67) _).put (some 68) _) _
      refine wpAnyH_take (i := 9) (v := .bool false) rfl (by kernel_rfl) (by kernel_rfl) (by kernel_rfl) (fun _ _ _ h => h) (Or.inl ⟨by rfl, fun W _ => by simp [execOp, eval_ne, eval_eq, put_size, fz, f8, f62, f65] <;> go_simp⟩) hSd ?_
      change wpAnyH _ _ _ _ _ _ _ ((((ac.put (some 66) _).put (some 67) _).put (some 68) _).put (some 69) _) _
      refine wpAnyH_done (by kernel_rfl) ?_ _
      rw [unhide heq]
      simp only [Act.put, List.setIfInBounds_toArray, List.set_cons_succ, List.set_cons_zero]
      clear heq fz f8 f62 f65 ac hSd
      go_wp2
      have e2 := (unhide HC6).at0
      have e3 := (unhide HC6).at1
      go_quiet (first | (go_at_call 9; refine Calls.quiet_of (reads_r G e _ _ p0 S0.length S0.length p1 S1.length S1.length ((S0.length : Int) + (S1.length : Int)) _ ((unhide HC6).drewN _) (by first | omega | (simp; omega)) (by first | omega | (simp; omega)) (by first | omega | (simp; omega)))))
      go_wp2
      go_ret
      exact ⟨rfl, ⟨hBw6.os, hBw6.tape, hBw6.output, hBw6.size, hBw6.block⟩⟩
    · have hem' : e.toList.isEmpty = false := by simpa using hem
      have hemp := hem'
      by_cases hh : hasB S0 e = true
      · rw [hh]
        go_wp2_with (first
          | fail
          | (refine wpList_load_row rfl 27 (.tmp 4) rfl w2.heap.size rfl 27 (KC k) (0, 0) _ (unhide HK4) Yba.underlying27 rfl (i27 k) ?_))
        refine (give_no_0 G e k (KC b) p0 S0 (.slice p1 S1.length S1.length) w4 (unhide HC4) (unhide HT4) (by omega) (.inr ⟨hem', hh⟩)).mono ?_
        rintro en w5 ⟨rfl, hb5⟩
        have HC5 := hide ((unhide HC4).below hb5)
        have HS5 := hide ((unhide HT4).below hb5)
        have hBw5 : Below w.heap.size w w5 := hBw4.trans (hb5.mono (by omega))
        have HX5 : Hid (w5.heap[w.heap.size]? = some (.cells (IN k b s a0 S0.length c0 a1 S1.length c1 e) 24 (0, 0))) := by
          show _ = _
          rw [hb5.block _ (by omega)]; exact unhide HX4
        have HK5 : Hid (w5.heap[w2.heap.size]? = some (.cells (KC k) 27 (0, 0))) := by
          show _ = _
          rw [hb5.block _ hsz4]; exact unhide HK4
        have i3 : w5.cell? ⟨w.heap.size, 3, none⟩ = some (.slice a0 S0.length c0) := by rw [cell_of_row w5 _ _ _ 24 (0, 0) (unhide HX5)]; rfl
        have i4 : w5.cell? ⟨w.heap.size, 4, none⟩ = some (.slice a1 S1.length c1) := by rw [cell_of_row w5 _ _ _ 24 (0, 0) (unhide HX5)]; rfl
        have i5 : w5.cell? ⟨w.heap.size, 5, none⟩ = some (.string e) := by rw [cell_of_row w5 _ _ _ 24 (0, 0) (unhide HX5)]; rfl
        have hszK : w2.heap.size < w5.heap.size := (Array.getElem?_eq_some_iff.1 (unhide HK5)).1
        clear HC4 HT4 HX4 HK4 hb5 hBw4 hsz4
        go_wp2
        refine abs_act2 (F15 w.heap.size G w2.heap.size (.bool true)) ⟨rfl, rfl, rfl, rfl, rfl⟩ ?_
        rintro ac ⟨fz, f1, f3, f4, f8⟩ heq
        refine wp_region_held (S := fun W => W.heap[w2.heap.size]? = some (.cells (KC k) 27 (0, 0)) ∧ W.cell? ⟨w.heap.size, 5, none⟩ = some (.string e)) (by kernel_rfl) ?_
        try (change wpAnyH _ _ _ _ _ _ _ _ (World.drew _))
        have hSd : w5.drew.heap[w2.heap.size]? = some (.cells (KC k) 27 (0, 0)) ∧ w5.drew.cell? ⟨w.heap.size, 5, none⟩ = some (.string e) := ⟨unhide HK5, i5⟩
        refine wpAnyH_take (i := 0) (v := .pointer (some ⟨G, 0, none⟩)) rfl (by kernel_rfl) (by kernel_rfl) (by kernel_rfl) (fun _ _ _ h => h) (Or.inl ⟨by rfl, fun W _ => by simp [execOp, eval_ne, eval_eq, put_size, fz, f1, f3, f4, f8] <;> go_simp⟩) hSd ?_
        change wpAnyH _ _ _ _ _ _ _ (ac.put (some 60) _) _
        refine wpAnyH_take (i := 3) (v := .pointer (some ⟨w.heap.size, 5, none⟩)) rfl (by kernel_rfl) (by kernel_rfl) (by kernel_rfl) (fun _ _ _ h => h) (Or.inl ⟨by rfl, fun W _ => by simp [execOp, eval_ne, eval_eq, put_size, fz, f1, f3, f4, f8] <;> go_simp⟩) hSd ?_
        change wpAnyH _ _ _ _ _ _ _ ((ac.put (some 60) _).put (some 63) _) _
        refine wpAnyH_take (i := 1) (v := .agg (KC k)) rfl (by kernel_rfl) (by kernel_rfl) (by kernel_rfl) (fun _ _ _ h => h) (yieldsIf_load_row (by rfl) 27 (.tmp 4) rfl w2.heap.size (by simp [eval_ne, f4]) 27 (KC k) _ (fun W hW => hW.1) Yba.underlying27 rfl (i27 k)) hSd ?_
        change wpAnyH _ _ _ _ _ _ _ (((ac.put (some 60) _).put (some 63) _).put (some 61) _) _
        refine wpAnyH_take (i := 4) (v := .string e) rfl (by kernel_rfl) (by kernel_rfl) (by kernel_rfl) (fun _ _ _ h => h) (Or.inl ⟨by rfl, fun W hW => by have h5 := hW.2; simp [execOp, eval_ne, eval_eq, put_size, fz, f1, f3, f4, f8] <;> go_simp⟩) hSd ?_
        change wpAnyH _ _ _ _ _ _ _ ((((ac.put (some 60) _).put (some 63) _).put (some 61) _).put (some 64) _) _
        refine wpAnyH_take (i := 5) (v := .bool true) rfl (by kernel_rfl) (by kernel_rfl) (by kernel_rfl) (fun _ _ _ h => h) (Or.inl ⟨by rfl, fun W _ => by simp [execOp, eval_ne, eval_eq, put_size, fz, f1, f3, f4, f8] <;> go_simp⟩) hSd ?_
        change wpAnyH _ _ _ _ _ _ _ (((((ac.put (some 60) _).put (some 63) _).put (some 61) _).put (some 64) _).put (some 65) _) _
        rw [unhide heq]
        simp only [Act.put, List.setIfInBounds_toArray, List.set_cons_succ, List.set_cons_zero]
        clear heq fz f1 f3 f4 f8 ac
        refine wpAnyH_all (rs := [2]) (by kernel_rfl) (by simp) (fun i hi => ?_)
        obtain rfl : i = 2 := by simpa using hi
        refine wpOp_step rfl (fun K hK => ?_)
        go_simp
        go_wp2_with fail
        refine (gave_0 G e k (KC b) p0 S0.length S0 (.slice p1 S1.length S1.length) _ (unhide HC5).drew ((unhide HS5).below (Below.refl _ _).drew) (by first | omega | (simp; omega))).mono ?_
        rintro en w6 ⟨rfl, hb6⟩
        rw [hh]
        have HC6 := hide ((unhide HC5).drew.below hb6)
        have hBw6 : Below w.heap.size w w6 := hBw5.drew.trans (hb6.mono hBw5.size)
        have HX6 : Hid (w6.heap[w.heap.size]? = some (.cells (IN k b s a0 S0.length c0 a1 S1.length c1 e) 24 (0, 0))) := by
          show _ = _
          rw [hb6.block _ (by show w.heap.size < w5.heap.size; omega)]; exact unhide HX5
        have HK6 := hide ((hb6.block _ hszK).trans (unhide HK5))
        have k3 : w6.cell? ⟨w.heap.size, 3, none⟩ = some (.slice a0 S0.length c0) := by rw [cell_of_row w6 _ _ _ 24 (0, 0) (unhide HX6)]; rfl
        have k4 : w6.cell? ⟨w.heap.size, 4, none⟩ = some (.slice a1 S1.length c1) := by rw [cell_of_row w6 _ _ _ 24 (0, 0) (unhide HX6)]; rfl
        have k5 : w6.cell? ⟨w.heap.size, 5, none⟩ = some (.string e) := by rw [cell_of_row w6 _ _ _ 24 (0, 0) (unhide HX6)]; rfl
        clear HC5 HS5 HX5 HK5 hSd i3 i4 i5 hb6 hi
        go_wp2_with fail
        refine ⟨⟨unhide HK6, k5⟩, ?_⟩
        refine abs_h (F15b (.bool true) (.bool true) (.bool true)) ⟨rfl, rfl, rfl, rfl⟩ ?_
        rintro ac ⟨fz, f8, f62, f65⟩ heq
        have hSd : w6.heap[w2.heap.size]? = some (.cells (KC k) 27 (0, 0)) ∧ w6.cell? ⟨w.heap.size, 5, none⟩ = some (.string e) := ⟨unhide HK6, k5⟩
        refine wpAnyH_take (i := 6) (v := .bool true) rfl (by kernel_rfl) (by kernel_rfl) (by kernel_rfl) (fun _ _ _ h => h) (Or.inl ⟨by rfl, fun W _ => by simp [execOp, eval_ne, eval_eq, put_size, fz, f8, f62, f65] <;> go_simp⟩) hSd ?_
        change wpAnyH _ _ _ _ _ _ _ (ac.put (some 66) _) _
        refine wpAnyH_take (i := 7) (v := undef) rfl (by kernel_rfl) (by kernel_rfl) (by kernel_rfl) (fun _ _ _ h => h) (Or.inr ⟨by simp [Region.wanted, yielded, Act.put, fz], rfl⟩) hSd ?_
        change wpAnyH _ _ _ _ _ _ _ ((ac.put (some 66) _).put (some 67) _) _
        refine wpAnyH_take (i := 8) (v := .bool true) rfl (by kernel_rfl) (by kernel_rfl) (by kernel_rfl) (fun _ _ _ h => h) (Or.inl ⟨by rfl, fun W _ => by simp [execOp, eval_ne, eval_eq, put_size, fz, f8, f62, f65] <;> go_simp⟩) hSd ?_
        change wpAnyH _ _ _ _ _ _ _ (((ac.put (some 66) _).put (some 67) _).put (some 68) _) _
        refine wpAnyH_take (i := 9) (v := .bool false) rfl (by kernel_rfl) (by kernel_rfl) (by kernel_rfl) (fun _ _ _ h => h) (Or.inl ⟨by rfl, fun W _ => by simp [execOp, eval_ne, eval_eq, put_size, fz, f8, f62, f65] <;> go_simp⟩) hSd ?_
        change wpAnyH _ _ _ _ _ _ _ ((((ac.put (some 66) _).put (some 67) _).put (some 68) _).put (some 69) _) _
        refine wpAnyH_done (by kernel_rfl) ?_ _
        rw [unhide heq]
        simp only [Act.put, List.setIfInBounds_toArray, List.set_cons_succ, List.set_cons_zero]
        clear heq fz f8 f62 f65 ac hSd
        go_wp2
        have e2 := (unhide HC6).at0
        have e3 := (unhide HC6).at1
        go_quiet (first | (go_at_call 9; refine Calls.quiet_of (reads_r G e _ _ p0 S0.length S0.length p1 S1.length S1.length ((S0.length : Int) + (S1.length : Int)) _ ((unhide HC6).drewN _) (by first | omega | (simp; omega)) (by first | omega | (simp; omega)) (by first | omega | (simp; omega)))))
        go_wp2
        go_ret
        exact ⟨rfl, ⟨hBw6.os, hBw6.tape, hBw6.output, hBw6.size, hBw6.block⟩⟩
      · have hh' : hasB S0 e = false := by simpa using hh
        rw [hh']
        go_wp2_with (first
          | fail
          | (refine wpList_load_row rfl 27 (.tmp 4) rfl w2.heap.size rfl 27 (KC k) (0, 0) _ (unhide HK4) Yba.underlying27 rfl (i27 k) ?_))
        refine (give_yes_0 G e k (KC b) p0 S0 (.slice p1 S1.length S1.length) w4 (unhide HC4) (unhide HT4) (by omega) (by omega) hem' hh').mono ?_
        rintro en w5 ⟨rfl, pp, cc, hC5, hS5, hb5, hk5⟩
        have HC5 : Hid (Chan w5 G e (KC k) (KC b) (.slice pp (S0 ++ [e]).length cc) (.slice p1 S1.length S1.length)) := by
          show Chan _ _ _ _ _ _ _
          rw [List.length_append]
          exact hC5
        have HS5 := hide hS5
        have hBw5 : Below w.heap.size w w5 := hBw4.trans (hb5.mono (Nat.le_of_lt hGw))
        have HX5 : Hid (w5.heap[w.heap.size]? = some (.cells (IN k b s a0 S0.length c0 a1 S1.length c1 e) 24 (0, 0))) := by
          show _ = _
          rw [hk5 _ (by omega) (by omega)]; exact unhide HX4
        have HK5 : Hid (w5.heap[w2.heap.size]? = some (.cells (KC k) 27 (0, 0))) := by
          show _ = _
          rw [hk5 _ hsz4 (by omega)]; exact unhide HK4
        have i3 : w5.cell? ⟨w.heap.size, 3, none⟩ = some (.slice a0 S0.length c0) := by rw [cell_of_row w5 _ _ _ 24 (0, 0) (unhide HX5)]; rfl
        have i4 : w5.cell? ⟨w.heap.size, 4, none⟩ = some (.slice a1 S1.length c1) := by rw [cell_of_row w5 _ _ _ 24 (0, 0) (unhide HX5)]; rfl
        have i5 : w5.cell? ⟨w.heap.size, 5, none⟩ = some (.string e) := by rw [cell_of_row w5 _ _ _ 24 (0, 0) (unhide HX5)]; rfl
        have hszK : w2.heap.size < w5.heap.size := (Array.getElem?_eq_some_iff.1 (unhide HK5)).1
        clear HC4 HT4 HX4 HK4 hb5 hBw4 hsz4 hC5 hS5 hk5
        go_wp2
        refine abs_act2 (F15 w.heap.size G w2.heap.size (.bool false)) ⟨rfl, rfl, rfl, rfl, rfl⟩ ?_
        rintro ac ⟨fz, f1, f3, f4, f8⟩ heq
        refine wp_region_held (S := fun W => W.heap[w2.heap.size]? = some (.cells (KC k) 27 (0, 0)) ∧ W.cell? ⟨w.heap.size, 5, none⟩ = some (.string e)) (by kernel_rfl) ?_
        try (change wpAnyH _ _ _ _ _ _ _ _ (World.drew _))
        have hSd : w5.drew.heap[w2.heap.size]? = some (.cells (KC k) 27 (0, 0)) ∧ w5.drew.cell? ⟨w.heap.size, 5, none⟩ = some (.string e) := ⟨unhide HK5, i5⟩
        refine wpAnyH_take (i := 0) (v := .pointer (some ⟨G, 0, none⟩)) rfl (by kernel_rfl) (by kernel_rfl) (by kernel_rfl) (fun _ _ _ h => h) (Or.inl ⟨by rfl, fun W _ => by simp [execOp, eval_ne, eval_eq, put_size, fz, f1, f3, f4, f8] <;> go_simp⟩) hSd ?_
        change wpAnyH _ _ _ _ _ _ _ (ac.put (some 60) _) _
        refine wpAnyH_take (i := 3) (v := .pointer (some ⟨w.heap.size, 5, none⟩)) rfl (by kernel_rfl) (by kernel_rfl) (by kernel_rfl) (fun _ _ _ h => h) (Or.inl ⟨by rfl, fun W _ => by simp [execOp, eval_ne, eval_eq, put_size, fz, f1, f3, f4, f8] <;> go_simp⟩) hSd ?_
        change wpAnyH _ _ _ _ _ _ _ ((ac.put (some 60) _).put (some 63) _) _
        refine wpAnyH_take (i := 1) (v := .agg (KC k)) rfl (by kernel_rfl) (by kernel_rfl) (by kernel_rfl) (fun _ _ _ h => h) (yieldsIf_load_row (by rfl) 27 (.tmp 4) rfl w2.heap.size (by simp [eval_ne, f4]) 27 (KC k) _ (fun W hW => hW.1) Yba.underlying27 rfl (i27 k)) hSd ?_
        change wpAnyH _ _ _ _ _ _ _ (((ac.put (some 60) _).put (some 63) _).put (some 61) _) _
        refine wpAnyH_take (i := 4) (v := .string e) rfl (by kernel_rfl) (by kernel_rfl) (by kernel_rfl) (fun _ _ _ h => h) (Or.inl ⟨by rfl, fun W hW => by have h5 := hW.2; simp [execOp, eval_ne, eval_eq, put_size, fz, f1, f3, f4, f8] <;> go_simp⟩) hSd ?_
        change wpAnyH _ _ _ _ _ _ _ ((((ac.put (some 60) _).put (some 63) _).put (some 61) _).put (some 64) _) _
        refine wpAnyH_take (i := 5) (v := .bool true) rfl (by kernel_rfl) (by kernel_rfl) (by kernel_rfl) (fun _ _ _ h => h) (Or.inl ⟨by rfl, fun W _ => by simp [execOp, eval_ne, eval_eq, put_size, fz, f1, f3, f4, f8] <;> go_simp⟩) hSd ?_
        change wpAnyH _ _ _ _ _ _ _ (((((ac.put (some 60) _).put (some 63) _).put (some 61) _).put (some 64) _).put (some 65) _) _
        rw [unhide heq]
        simp only [Act.put, List.setIfInBounds_toArray, List.set_cons_succ, List.set_cons_zero]
        clear heq fz f1 f3 f4 f8 ac
        refine wpAnyH_all (rs := [2]) (by kernel_rfl) (by simp) (fun i hi => ?_)
        obtain rfl : i = 2 := by simpa using hi
        refine wpOp_step rfl (fun K hK => ?_)
        go_simp
        go_wp2_with fail
        refine (gave_0 G e k (KC b) pp cc (S0 ++ [e]) (.slice p1 S1.length S1.length) _ (unhide HC5).drew ((unhide HS5).below (Below.refl _ _).drew) (by first | omega | (simp; omega))).mono ?_
        rintro en w6 ⟨rfl, hb6⟩
        rw [show hasB (S0 ++ [e]) e = true from has_last S0 e]
        have HC6 := hide ((unhide HC5).drew.below hb6)
        have hBw6 : Below w.heap.size w w6 := hBw5.drew.trans (hb6.mono hBw5.size)
        have HX6 : Hid (w6.heap[w.heap.size]? = some (.cells (IN k b s a0 S0.length c0 a1 S1.length c1 e) 24 (0, 0))) := by
          show _ = _
          rw [hb6.block _ (by show w.heap.size < w5.heap.size; omega)]; exact unhide HX5
        have HK6 := hide ((hb6.block _ hszK).trans (unhide HK5))
        have k3 : w6.cell? ⟨w.heap.size, 3, none⟩ = some (.slice a0 S0.length c0) := by rw [cell_of_row w6 _ _ _ 24 (0, 0) (unhide HX6)]; rfl
        have k4 : w6.cell? ⟨w.heap.size, 4, none⟩ = some (.slice a1 S1.length c1) := by rw [cell_of_row w6 _ _ _ 24 (0, 0) (unhide HX6)]; rfl
        have k5 : w6.cell? ⟨w.heap.size, 5, none⟩ = some (.string e) := by rw [cell_of_row w6 _ _ _ 24 (0, 0) (unhide HX6)]; rfl
        clear HC5 HS5 HX5 HK5 hSd i3 i4 i5 hb6 hi
        go_wp2_with fail
        refine ⟨⟨unhide HK6, k5⟩, ?_⟩
        refine abs_h (F15b (.bool false) (.bool true) (.bool true)) ⟨rfl, rfl, rfl, rfl⟩ ?_
        rintro ac ⟨fz, f8, f62, f65⟩ heq
        have hSd : w6.heap[w2.heap.size]? = some (.cells (KC k) 27 (0, 0)) ∧ w6.cell? ⟨w.heap.size, 5, none⟩ = some (.string e) := ⟨unhide HK6, k5⟩
        refine wpAnyH_take (i := 6) (v := .bool true) rfl (by kernel_rfl) (by kernel_rfl) (by kernel_rfl) (fun _ _ _ h => h) (Or.inl ⟨by rfl, fun W _ => by simp [execOp, eval_ne, eval_eq, put_size, fz, f8, f62, f65] <;> go_simp⟩) hSd ?_
        change wpAnyH _ _ _ _ _ _ _ (ac.put (some 66) _) _
        refine wpAnyH_take (i := 7) (v := undef) rfl (by kernel_rfl) (by kernel_rfl) (by kernel_rfl) (fun _ _ _ h => h) (Or.inr ⟨by simp [Region.wanted, yielded, Act.put, fz], rfl⟩) hSd ?_
        change wpAnyH _ _ _ _ _ _ _ ((ac.put (some 66) _).put (some 67) _) _
        refine wpAnyH_take (i := 8) (v := .bool true) rfl (by kernel_rfl) (by kernel_rfl) (by kernel_rfl) (fun _ _ _ h => h) (Or.inl ⟨by rfl, fun W _ => by simp [execOp, eval_ne, eval_eq, put_size, fz, f8, f62, f65] <;> go_simp⟩) hSd ?_
        change wpAnyH _ _ _ _ _ _ _ (((ac.put (some 66) _).put (some 67) _).put (some 68) _) _
        refine wpAnyH_take (i := 9) (v := .bool false) rfl (by kernel_rfl) (by kernel_rfl) (by kernel_rfl) (fun _ _ _ h => h) (Or.inl ⟨by rfl, fun W _ => by simp [execOp, eval_ne, eval_eq, put_size, fz, f8, f62, f65] <;> go_simp⟩) hSd ?_
        change wpAnyH _ _ _ _ _ _ _ ((((ac.put (some 66) _).put (some 67) _).put (some 68) _).put (some 69) _) _
        refine wpAnyH_done (by kernel_rfl) ?_ _
        rw [unhide heq]
        simp only [Act.put, List.setIfInBounds_toArray, List.set_cons_succ, List.set_cons_zero]
        clear heq fz f8 f62 f65 ac hSd
        go_wp2
        have e2 := (unhide HC6).at0
        have e3 := (unhide HC6).at1
        go_quiet (first | (go_at_call 9; refine Calls.quiet_of (reads_r G e _ _ pp (S0 ++ [e]).length cc p1 S1.length S1.length ((S0.length : Int) + (S1.length : Int) + 1) _ ((unhide HC6).drewN _) (by first | omega | (simp; omega)) (by first | omega | (simp; omega)) (by first | omega | (simp; omega)))))
        go_wp2
        go_ret
        exact ⟨rfl, ⟨hBw6.os, hBw6.tape, hBw6.output, hBw6.size, hBw6.block⟩⟩

  · go_wp2_with (first
      | (refine wpList_alloc_run rfl 27 rfl (alloc27 _) ?_)
      | (refine wpList_store_block rfl 27 (.tmp 4) (.tmp 25) rfl w2.heap.size Z32 (KC k) 27 rfl rfl (heap_alloc_new w2 (.cells Z32 27)) rfl (i27 k) (KC_one k) ?_))
    intro w3 hb3 hg3
    have hB3 : Below w2.heap.size w2 w3 := ((Below.refl _ _).alloc (Nat.le_refl _) _).grown hg3 (by simp) (fun k h => by cases h; omega)
    have HC3 := hide ((unhide HC).below hB3)
    have HT0 := hide ((unhide HP0).below hB3)
    have HT1 := hide ((unhide HP1).below hB3)
    have HK3 := hide hb3
    have HX3 : Hid (w3.heap[w.heap.size]? = some (.cells (IN a k s a0 S0.length c0 a1 S1.length c1 e) 24 (0, 0))) := by
      show _ = _
      rw [hB3.block _ (by omega)]; exact unhide HX
    have hBw3 : Below w.heap.size w w3 := (unhide HBW).trans (hB3.mono (by omega))
    have HU0 := hide (h0.below hBw3)
    have HU1 := hide (h1.below hBw3)
    have i3 : w3.cell? ⟨w.heap.size, 3, none⟩ = some (.slice a0 S0.length c0) := by rw [cell_of_row w3 _ _ _ 24 (0, 0) (unhide HX3)]; rfl
    have i4 : w3.cell? ⟨w.heap.size, 4, none⟩ = some (.slice a1 S1.length c1) := by rw [cell_of_row w3 _ _ _ 24 (0, 0) (unhide HX3)]; rfl
    have i5 : w3.cell? ⟨w.heap.size, 5, none⟩ = some (.string e) := by rw [cell_of_row w3 _ _ _ 24 (0, 0) (unhide HX3)]; rfl
    have hsz3 : w2.heap.size < w3.heap.size := (Array.getElem?_eq_some_iff.1 (unhide HK3)).1
    have hGlt := (unhide HC).lt
    clear hb3 hg3 hB3 HC HP0 HP1 HX HBW
    go_wp2_with fail
    refine (has_any a1 c1 S1 e w3 (unhide HU1) (by omega)).mono ?_
    rintro en w' ⟨rfl, heqw⟩
    replace heqw := heqw.symm
    subst heqw
    go_wp2_with (first
      | fail
      | (refine wpList_load_row rfl 27 (.tmp 4) rfl w2.heap.size rfl 27 (KC k) (0, 0) _ (unhide HK3) Yba.underlying27 rfl (i27 k) ?_))
    refine (gave_1 G e a k hab (.slice p0 S0.length S0.length) p1 S1.length S1 w3 (unhide HC3) (unhide HT1) (by omega)).mono ?_
    rintro en w4 ⟨rfl, hb4⟩
    have HC4 := hide ((unhide HC3).below hb4)
    have HT4 := hide ((unhide HT1).below hb4)
    have hBw4 : Below w.heap.size w w4 := hBw3.trans (hb4.mono (by omega))
    have HX4 : Hid (w4.heap[w.heap.size]? = some (.cells (IN a k s a0 S0.length c0 a1 S1.length c1 e) 24 (0, 0))) := by
      show _ = _
      rw [hb4.block _ (by omega)]; exact unhide HX3
    have HK4 : Hid (w4.heap[w2.heap.size]? = some (.cells (KC k) 27 (0, 0))) := by
      show _ = _
      rw [hb4.block _ hsz3]; exact unhide HK3
    have hsz4 : w2.heap.size < w4.heap.size := (Array.getElem?_eq_some_iff.1 (unhide HK4)).1
    clear i3 i4 i5 hb4 HC3 HT0 HT1 HU0 HU1 HK3 HX3 hBw3 hsz3
    by_cases hem : e.toList.isEmpty = true
    · have hemp := hem
      go_wp2_with (first
        | fail
        | (refine wpList_load_row rfl 27 (.tmp 4) rfl w2.heap.size rfl 27 (KC k) (0, 0) _ (unhide HK4) Yba.underlying27 rfl (i27 k) ?_))
      refine (give_no_1 G e a k hab (.slice p0 S0.length S0.length) p1 S1 w4 (unhide HC4) (unhide HT4) (by omega) (.inl hem)).mono ?_
      rintro en w5 ⟨rfl, hb5⟩
      have HC5 := hide ((unhide HC4).below hb5)
      have HS5 := hide ((unhide HT4).below hb5)
      have hBw5 : Below w.heap.size w w5 := hBw4.trans (hb5.mono (by omega))
      have HX5 : Hid (w5.heap[w.heap.size]? = some (.cells (IN a k s a0 S0.length c0 a1 S1.length c1 e) 24 (0, 0))) := by
        show _ = _
        rw [hb5.block _ (by omega)]; exact unhide HX4
      have HK5 : Hid (w5.heap[w2.heap.size]? = some (.cells (KC k) 27 (0, 0))) := by
        show _ = _
        rw [hb5.block _ hsz4]; exact unhide HK4
      have i3 : w5.cell? ⟨w.heap.size, 3, none⟩ = some (.slice a0 S0.length c0) := by rw [cell_of_row w5 _ _ _ 24 (0, 0) (unhide HX5)]; rfl
      have i4 : w5.cell? ⟨w.heap.size, 4, none⟩ = some (.slice a1 S1.length c1) := by rw [cell_of_row w5 _ _ _ 24 (0, 0) (unhide HX5)]; rfl
      have i5 : w5.cell? ⟨w.heap.size, 5, none⟩ = some (.string e) := by rw [cell_of_row w5 _ _ _ 24 (0, 0) (unhide HX5)]; rfl
      have hszK : w2.heap.size < w5.heap.size := (Array.getElem?_eq_some_iff.1 (unhide HK5)).1
      clear HC4 HT4 HX4 HK4 hb5 hBw4 hsz4
      go_wp2
      refine abs_act2 (F15 w.heap.size G w2.heap.size (.bool (hasB S1 e))) ⟨rfl, rfl, rfl, rfl, rfl⟩ ?_
      rintro ac ⟨fz, f1, f3, f4, f8⟩ heq
      refine wp_region_held (S := fun W => W.heap[w2.heap.size]? = some (.cells (KC k) 27 (0, 0)) ∧ W.cell? ⟨w.heap.size, 5, none⟩ = some (.string e)) (by kernel_rfl) ?_
      try (change wpAnyH _ _ _ _ _ _ _ _ (World.drew _))
      have hSd : w5.drew.heap[w2.heap.size]? = some (.cells (KC k) 27 (0, 0)) ∧ w5.drew.cell? ⟨w.heap.size, 5, none⟩ = some (.string e) := ⟨unhide HK5, i5⟩
      refine wpAnyH_take (i := 0) (v := .pointer (some ⟨G, 0, none⟩)) rfl (by kernel_rfl) (by kernel_rfl) (by kernel_rfl) (fun _ _ _ h => h) (Or.inl ⟨by rfl, fun W _ => by simp [execOp, eval_ne, eval_eq, put_size, fz, f1, f3, f4, f8] <;> go_simp⟩) hSd ?_
      change wpAnyH _ _ _ _ _ _ _ (ac.put (some 60) _) _
      refine wpAnyH_take (i := 3) (v := .pointer (some ⟨w.heap.size, 5, none⟩)) rfl (by kernel_rfl) (by kernel_rfl) (by kernel_rfl) (fun _ _ _ h => h) (Or.inl ⟨by rfl, fun W _ => by simp [execOp, eval_ne, eval_eq, put_size, fz, f1, f3, f4, f8] <;> go_simp⟩) hSd ?_
      change wpAnyH _ _ _ _ _ _ _ ((ac.put (some 60) _).put (some 63) _) _
      refine wpAnyH_take (i := 1) (v := .agg (KC k)) rfl (by kernel_rfl) (by kernel_rfl) (by kernel_rfl) (fun _ _ _ h => h) (yieldsIf_load_row (by rfl) 27 (.tmp 4) rfl w2.heap.size (by simp [eval_ne, f4]) 27 (KC k) _ (fun W hW => hW.1) Yba.underlying27 rfl (i27 k)) hSd ?_
      change wpAnyH _ _ _ _ _ _ _ (((ac.put (some 60) _).put (some 63) _).put (some 61) _) _
      refine wpAnyH_take (i := 4) (v := .string e) rfl (by kernel_rfl) (by kernel_rfl) (by kernel_rfl) (fun _ _ _ h => h) (Or.inl ⟨by rfl, fun W hW => by have h5 := hW.2; simp [execOp, eval_ne, eval_eq, put_size, fz, f1, f3, f4, f8] <;> go_simp⟩) hSd ?_
      change wpAnyH _ _ _ _ _ _ _ ((((ac.put (some 60) _).put (some 63) _).put (some 61) _).put (some 64) _) _
      refine wpAnyH_take (i := 5) (v := .bool false) rfl (by kernel_rfl) (by kernel_rfl) (by kernel_rfl) (fun _ _ _ h => h) (Or.inl ⟨by rfl, fun W _ => by simp [execOp, eval_ne, eval_eq, put_size, fz, f1, f3, f4, f8] <;> go_simp⟩) hSd ?_
      change wpAnyH _ _ _ _ _ _ _ (((((ac.put (some 60) _).put (some 63) _).put (some 61) _).put (some 64) _).put (some 65) _) _
      rw [unhide heq]
      simp only [Act.put, List.setIfInBounds_toArray, List.set_cons_succ, List.set_cons_zero]
      clear heq fz f1 f3 f4 f8 ac
      refine wpAnyH_all (rs := [2]) (by kernel_rfl) (by simp) (fun i hi => ?_)
      obtain rfl : i = 2 := by simpa using hi
      refine wpOp_step rfl (fun K hK => ?_)
      go_simp
      go_wp2_with fail
      refine (gave_1 G e a k hab (.slice p0 S0.length S0.length) p1 S1.length S1 _ (unhide HC5).drew ((unhide HS5).below (Below.refl _ _).drew) (by first | omega | (simp; omega))).mono ?_
      rintro en w6 ⟨rfl, hb6⟩
      have HC6 := hide ((unhide HC5).drew.below hb6)
      have hBw6 : Below w.heap.size w w6 := hBw5.drew.trans (hb6.mono hBw5.size)
      have HX6 : Hid (w6.heap[w.heap.size]? = some (.cells (IN a k s a0 S0.length c0 a1 S1.length c1 e) 24 (0, 0))) := by
        show _ = _
        rw [hb6.block _ (by show w.heap.size < w5.heap.size; omega)]; exact unhide HX5
      have HK6 := hide ((hb6.block _ hszK).trans (unhide HK5))
      have k3 : w6.cell? ⟨w.heap.size, 3, none⟩ = some (.slice a0 S0.length c0) := by rw [cell_of_row w6 _ _ _ 24 (0, 0) (unhide HX6)]; rfl
      have k4 : w6.cell? ⟨w.heap.size, 4, none⟩ = some (.slice a1 S1.length c1) := by rw [cell_of_row w6 _ _ _ 24 (0, 0) (unhide HX6)]; rfl
      have k5 : w6.cell? ⟨w.heap.size, 5, none⟩ = some (.string e) := by rw [cell_of_row w6 _ _ _ 24 (0, 0) (unhide HX6)]; rfl
      clear HC5 HS5 HX5 HK5 hSd i3 i4 i5 hb6 hi
      go_wp2_with fail
      refine ⟨⟨unhide HK6, k5⟩, ?_⟩
      refine abs_h (F15b (.bool (hasB S1 e)) (.bool (hasB S1 e)) (.bool false)) ⟨rfl, rfl, rfl, rfl⟩ ?_
      rintro ac ⟨fz, f8, f62, f65⟩ heq
      have hSd : w6.heap[w2.heap.size]? = some (.cells (KC k) 27 (0, 0)) ∧ w6.cell? ⟨w.heap.size, 5, none⟩ = some (.string e) := ⟨unhide HK6, k5⟩
      refine wpAnyH_take (i := 6) (v := .bool false) rfl (by kernel_rfl) (by kernel_rfl) (by kernel_rfl) (fun _ _ _ h => h) (Or.inl ⟨by rfl, fun W _ => by simp [execOp, eval_ne, eval_eq, put_size, fz, f8, f62, f65] <;> go_simp⟩) hSd ?_
      change wpAnyH _ _ _ _ _ _ _ (ac.put (some 66) _) _
      refine wpAnyH_take (i := 7) (v := .bool (hasB S1 e)) rfl (by kernel_rfl) (by kernel_rfl) (by kernel_rfl) (fun _ _ _ h => h) (Or.inl ⟨by simp [Region.wanted, yielded, Act.put, fz], fun W _ => by simp [execOp, eval_ne, eval_eq, put_size, fz, f8, f62, f65] <;> go_simp⟩) hSd ?_
      change wpAnyH _ _ _ _ _ _ _ ((ac.put (some 66) _).put (some 67) _) _
      refine wpAnyH_take (i := 8) (v := .bool (hasB S1 e)) rfl (by kernel_rfl) (by kernel_rfl) (by kernel_rfl) (fun _ _ _ h => h) (Or.inl ⟨by rfl, fun W _ => by simp [execOp, eval_ne, eval_eq, put_size, fz, f8, f62, f65] <;> go_simp⟩) hSd ?_
      change wpAnyH _ _ _ _ _ _ _ (((ac.put (some 66) _).put (some 67) _).put (some 68) _) _
      refine wpAnyH_take (i := 9) (v := .bool false) rfl (by kernel_rfl) (by kernel_rfl) (by kernel_rfl) (fun _ _ _ h => h) (Or.inl ⟨by rfl, fun W _ => by simp [execOp, eval_ne, eval_eq, put_size, fz, f8, f62, f65] <;> go_simp⟩) hSd ?_
      change wpAnyH _ _ _ _ _ _ _ ((((ac.put (some 66) _).put (some 67) _).put (some 68) _).put (some 69) _) _
      refine wpAnyH_done (by kernel_rfl) ?_ _
      rw [unhide heq]
      simp only [Act.put, List.setIfInBounds_toArray, List.set_cons_succ, List.set_cons_zero]
      clear heq fz f8 f62 f65 ac hSd
      go_wp2
      have e2 := (unhide HC6).at0
      have e3 := (unhide HC6).at1
      go_quiet (first | (go_at_call 9; refine Calls.quiet_of (reads_r G e _ _ p0 S0.length S0.length p1 S1.length S1.length ((S0.length : Int) + (S1.length : Int)) _ ((unhide HC6).drewN _) (by first | omega | (simp; omega)) (by first | omega | (simp; omega)) (by first | omega | (simp; omega)))))
      go_wp2
      go_ret
      exact ⟨rfl, ⟨hBw6.os, hBw6.tape, hBw6.output, hBw6.size, hBw6.block⟩⟩
    · have hem' : e.toList.isEmpty = false := by simpa using hem
      have hemp := hem'
      by_cases hh : hasB S1 e = true
      · rw [hh]
        go_wp2_with (first
          | fail
          | (refine wpList_load_row rfl 27 (.tmp 4) rfl w2.heap.size rfl 27 (KC k) (0, 0) _ (unhide HK4) Yba.underlying27 rfl (i27 k) ?_))
        refine (give_no_1 G e a k hab (.slice p0 S0.length S0.length) p1 S1 w4 (unhide HC4) (unhide HT4) (by omega) (.inr ⟨hem', hh⟩)).mono ?_
        rintro en w5 ⟨rfl, hb5⟩
        have HC5 := hide ((unhide HC4).below hb5)
        have HS5 := hide ((unhide HT4).below hb5)
        have hBw5 : Below w.heap.size w w5 := hBw4.trans (hb5.mono (by omega))
        have HX5 : Hid (w5.heap[w.heap.size]? = some (.cells (IN a k s a0 S0.length c0 a1 S1.length c1 e) 24 (0, 0))) := by
          show _ = _
          rw [hb5.block _ (by omega)]; exact unhide HX4
        have HK5 : Hid (w5.heap[w2.heap.size]? = some (.cells (KC k) 27 (0, 0))) := by
          show _ = _
          rw [hb5.block _ hsz4]; exact unhide HK4
        have i3 : w5.cell? ⟨w.heap.size, 3, none⟩ = some (.slice a0 S0.length c0) := by rw [cell_of_row w5 _ _ _ 24 (0, 0) (unhide HX5)]; rfl
        have i4 : w5.cell? ⟨w.heap.size, 4, none⟩ = some (.slice a1 S1.length c1) := by rw [cell_of_row w5 _ _ _ 24 (0, 0) (unhide HX5)]; rfl
        have i5 : w5.cell? ⟨w.heap.size, 5, none⟩ = some (.string e) := by rw [cell_of_row w5 _ _ _ 24 (0, 0) (unhide HX5)]; rfl
        have hszK : w2.heap.size < w5.heap.size := (Array.getElem?_eq_some_iff.1 (unhide HK5)).1
        clear HC4 HT4 HX4 HK4 hb5 hBw4 hsz4
        go_wp2
        refine abs_act2 (F15 w.heap.size G w2.heap.size (.bool true)) ⟨rfl, rfl, rfl, rfl, rfl⟩ ?_
        rintro ac ⟨fz, f1, f3, f4, f8⟩ heq
        refine wp_region_held (S := fun W => W.heap[w2.heap.size]? = some (.cells (KC k) 27 (0, 0)) ∧ W.cell? ⟨w.heap.size, 5, none⟩ = some (.string e)) (by kernel_rfl) ?_
        try (change wpAnyH _ _ _ _ _ _ _ _ (World.drew _))
        have hSd : w5.drew.heap[w2.heap.size]? = some (.cells (KC k) 27 (0, 0)) ∧ w5.drew.cell? ⟨w.heap.size, 5, none⟩ = some (.string e) := ⟨unhide HK5, i5⟩
        refine wpAnyH_take (i := 0) (v := .pointer (some ⟨G, 0, none⟩)) rfl (by kernel_rfl) (by kernel_rfl) (by kernel_rfl) (fun _ _ _ h => h) (Or.inl ⟨by rfl, fun W _ => by simp [execOp, eval_ne, eval_eq, put_size, fz, f1, f3, f4, f8] <;> go_simp⟩) hSd ?_
        change wpAnyH _ _ _ _ _ _ _ (ac.put (some 60) _) _
        refine wpAnyH_take (i := 3) (v := .pointer (some ⟨w.heap.size, 5, none⟩)) rfl (by kernel_rfl) (by kernel_rfl) (by kernel_rfl) (fun _ _ _ h => h) (Or.inl ⟨by rfl, fun W _ => by simp [execOp, eval_ne, eval_eq, put_size, fz, f1, f3, f4, f8] <;> go_simp⟩) hSd ?_
        change wpAnyH _ _ _ _ _ _ _ ((ac.put (some 60) _).put (some 63) _) _
        refine wpAnyH_take (i := 1) (v := .agg (KC k)) rfl (by kernel_rfl) (by kernel_rfl) (by kernel_rfl) (fun _ _ _ h => h) (yieldsIf_load_row (by rfl) 27 (.tmp 4) rfl w2.heap.size (by simp [eval_ne, f4]) 27 (KC k) _ (fun W hW => hW.1) Yba.underlying27 rfl (i27 k)) hSd ?_
        change wpAnyH _ _ _ _ _ _ _ (((ac.put (some 60) _).put (some 63) _).put (some 61) _) _
        refine wpAnyH_take (i := 4) (v := .string e) rfl (by kernel_rfl) (by kernel_rfl) (by kernel_rfl) (fun _ _ _ h => h) (Or.inl ⟨by rfl, fun W hW => by have h5 := hW.2; simp [execOp, eval_ne, eval_eq, put_size, fz, f1, f3, f4, f8] <;> go_simp⟩) hSd ?_
        change wpAnyH _ _ _ _ _ _ _ ((((ac.put (some 60) _).put (some 63) _).put (some 61) _).put (some 64) _) _
        refine wpAnyH_take (i := 5) (v := .bool true) rfl (by kernel_rfl) (by kernel_rfl) (by kernel_rfl) (fun _ _ _ h => h) (Or.inl ⟨by rfl, fun W _ => by simp [execOp, eval_ne, eval_eq, put_size, fz, f1, f3, f4, f8] <;> go_simp⟩) hSd ?_
        change wpAnyH _ _ _ _ _ _ _ (((((ac.put (some 60) _).put (some 63) _).put (some 61) _).put (some 64) _).put (some 65) _) _
        rw [unhide heq]
        simp only [Act.put, List.setIfInBounds_toArray, List.set_cons_succ, List.set_cons_zero]
        clear heq fz f1 f3 f4 f8 ac
        refine wpAnyH_all (rs := [2]) (by kernel_rfl) (by simp) (fun i hi => ?_)
        obtain rfl : i = 2 := by simpa using hi
        refine wpOp_step rfl (fun K hK => ?_)
        go_simp
        go_wp2_with fail
        refine (gave_1 G e a k hab (.slice p0 S0.length S0.length) p1 S1.length S1 _ (unhide HC5).drew ((unhide HS5).below (Below.refl _ _).drew) (by first | omega | (simp; omega))).mono ?_
        rintro en w6 ⟨rfl, hb6⟩
        rw [hh]
        have HC6 := hide ((unhide HC5).drew.below hb6)
        have hBw6 : Below w.heap.size w w6 := hBw5.drew.trans (hb6.mono hBw5.size)
        have HX6 : Hid (w6.heap[w.heap.size]? = some (.cells (IN a k s a0 S0.length c0 a1 S1.length c1 e) 24 (0, 0))) := by
          show _ = _
          rw [hb6.block _ (by show w.heap.size < w5.heap.size; omega)]; exact unhide HX5
        have HK6 := hide ((hb6.block _ hszK).trans (unhide HK5))
        have k3 : w6.cell? ⟨w.heap.size, 3, none⟩ = some (.slice a0 S0.length c0) := by rw [cell_of_row w6 _ _ _ 24 (0, 0) (unhide HX6)]; rfl
        have k4 : w6.cell? ⟨w.heap.size, 4, none⟩ = some (.slice a1 S1.length c1) := by rw [cell_of_row w6 _ _ _ 24 (0, 0) (unhide HX6)]; rfl
        have k5 : w6.cell? ⟨w.heap.size, 5, none⟩ = some (.string e) := by rw [cell_of_row w6 _ _ _ 24 (0, 0) (unhide HX6)]; rfl
        clear HC5 HS5 HX5 HK5 hSd i3 i4 i5 hb6 hi
        go_wp2_with fail
        refine ⟨⟨unhide HK6, k5⟩, ?_⟩
        refine abs_h (F15b (.bool true) (.bool true) (.bool true)) ⟨rfl, rfl, rfl, rfl⟩ ?_
        rintro ac ⟨fz, f8, f62, f65⟩ heq
        have hSd : w6.heap[w2.heap.size]? = some (.cells (KC k) 27 (0, 0)) ∧ w6.cell? ⟨w.heap.size, 5, none⟩ = some (.string e) := ⟨unhide HK6, k5⟩
        refine wpAnyH_take (i := 6) (v := .bool true) rfl (by kernel_rfl) (by kernel_rfl) (by kernel_rfl) (fun _ _ _ h => h) (Or.inl ⟨by rfl, fun W _ => by simp [execOp, eval_ne, eval_eq, put_size, fz, f8, f62, f65] <;> go_simp⟩) hSd ?_
        change wpAnyH _ _ _ _ _ _ _ (ac.put (some 66) _) _
        refine wpAnyH_take (i := 7) (v := undef) rfl (by kernel_rfl) (by kernel_rfl) (by kernel_rfl) (fun _ _ _ h => h) (Or.inr ⟨by simp [Region.wanted, yielded, Act.put, fz], rfl⟩) hSd ?_
        change wpAnyH _ _ _ _ _ _ _ ((ac.put (some 66) _).put (some 67) _) _
        refine wpAnyH_take (i := 8) (v := .bool true) rfl (by kernel_rfl) (by kernel_rfl) (by kernel_rfl) (fun _ _ _ h => h) (Or.inl ⟨by rfl, fun W _ => by simp [execOp, eval_ne, eval_eq, put_size, fz, f8, f62, f65] <;> go_simp⟩) hSd ?_
        change wpAnyH _ _ _ _ _ _ _ (((ac.put (some 66) _).put (some 67) _).put (some 68) _) _
        refine wpAnyH_take (i := 9) (v := .bool false) rfl (by kernel_rfl) (by kernel_rfl) (by kernel_rfl) (fun _ _ _ h => h) (Or.inl ⟨by rfl, fun W _ => by simp [execOp, eval_ne, eval_eq, put_size, fz, f8, f62, f65] <;> go_simp⟩) hSd ?_
        change wpAnyH _ _ _ _ _ _ _ ((((ac.put (some 66) _).put (some 67) _).put (some 68) _).put (some 69) _) _
        refine wpAnyH_done (by kernel_rfl) ?_ _
        rw [unhide heq]
        simp only [Act.put, List.setIfInBounds_toArray, List.set_cons_succ, List.set_cons_zero]
        clear heq fz f8 f62 f65 ac hSd
        go_wp2
        have e2 := (unhide HC6).at0
        have e3 := (unhide HC6).at1
        go_quiet (first | (go_at_call 9; refine Calls.quiet_of (reads_r G e _ _ p0 S0.length S0.length p1 S1.length S1.length ((S0.length : Int) + (S1.length : Int)) _ ((unhide HC6).drewN _) (by first | omega | (simp; omega)) (by first | omega | (simp; omega)) (by first | omega | (simp; omega)))))
        go_wp2
        go_ret
        exact ⟨rfl, ⟨hBw6.os, hBw6.tape, hBw6.output, hBw6.size, hBw6.block⟩⟩
      · have hh' : hasB S1 e = false := by simpa using hh
        rw [hh']
        go_wp2_with (first
          | fail
          | (refine wpList_load_row rfl 27 (.tmp 4) rfl w2.heap.size rfl 27 (KC k) (0, 0) _ (unhide HK4) Yba.underlying27 rfl (i27 k) ?_))
        refine (give_yes_1 G e a k hab (.slice p0 S0.length S0.length) p1 S1 w4 (unhide HC4) (unhide HT4) (by omega) (by omega) hem' hh').mono ?_
        rintro en w5 ⟨rfl, pp, cc, hC5, hS5, hb5, hk5⟩
        have HC5 : Hid (Chan w5 G e (KC a) (KC k) (.slice p0 S0.length S0.length) (.slice pp (S1 ++ [e]).length cc)) := by
          show Chan _ _ _ _ _ _ _
          rw [List.length_append]
          exact hC5
        have HS5 := hide hS5
        have hBw5 : Below w.heap.size w w5 := hBw4.trans (hb5.mono (Nat.le_of_lt hGw))
        have HX5 : Hid (w5.heap[w.heap.size]? = some (.cells (IN a k s a0 S0.length c0 a1 S1.length c1 e) 24 (0, 0))) := by
          show _ = _
          rw [hk5 _ (by omega) (by omega)]; exact unhide HX4
        have HK5 : Hid (w5.heap[w2.heap.size]? = some (.cells (KC k) 27 (0, 0))) := by
          show _ = _
          rw [hk5 _ hsz4 (by omega)]; exact unhide HK4
        have i3 : w5.cell? ⟨w.heap.size, 3, none⟩ = some (.slice a0 S0.length c0) := by rw [cell_of_row w5 _ _ _ 24 (0, 0) (unhide HX5)]; rfl
        have i4 : w5.cell? ⟨w.heap.size, 4, none⟩ = some (.slice a1 S1.length c1) := by rw [cell_of_row w5 _ _ _ 24 (0, 0) (unhide HX5)]; rfl
        have i5 : w5.cell? ⟨w.heap.size, 5, none⟩ = some (.string e) := by rw [cell_of_row w5 _ _ _ 24 (0, 0) (unhide HX5)]; rfl
        have hszK : w2.heap.size < w5.heap.size := (Array.getElem?_eq_some_iff.1 (unhide HK5)).1
        clear HC4 HT4 HX4 HK4 hb5 hBw4 hsz4 hC5 hS5 hk5
        go_wp2
        refine abs_act2 (F15 w.heap.size G w2.heap.size (.bool false)) ⟨rfl, rfl, rfl, rfl, rfl⟩ ?_
        rintro ac ⟨fz, f1, f3, f4, f8⟩ heq
        refine wp_region_held (S := fun W => W.heap[w2.heap.size]? = some (.cells (KC k) 27 (0, 0)) ∧ W.cell? ⟨w.heap.size, 5, none⟩ = some (.string e)) (by kernel_rfl) ?_
        try (change wpAnyH _ _ _ _ _ _ _ _ (World.drew _))
        have hSd : w5.drew.heap[w2.heap.size]? = some (.cells (KC k) 27 (0, 0)) ∧ w5.drew.cell? ⟨w.heap.size, 5, none⟩ = some (.string e) := ⟨unhide HK5, i5⟩
        refine wpAnyH_take (i := 0) (v := .pointer (some ⟨G, 0, none⟩)) rfl (by kernel_rfl) (by kernel_rfl) (by kernel_rfl) (fun _ _ _ h => h) (Or.inl ⟨by rfl, fun W _ => by simp [execOp, eval_ne, eval_eq, put_size, fz, f1, f3, f4, f8] <;> go_simp⟩) hSd ?_
        change wpAnyH _ _ _ _ _ _ _ (ac.put (some 60) _) _
        refine wpAnyH_take (i := 3) (v := .pointer (some ⟨w.heap.size, 5, none⟩)) rfl (by kernel_rfl) (by kernel_rfl) (by kernel_rfl) (fun _ _ _ h => h) (Or.inl ⟨by rfl, fun W _ => by simp [execOp, eval_ne, eval_eq, put_size, fz, f1, f3, f4, f8] <;> go_simp⟩) hSd ?_
        change wpAnyH _ _ _ _ _ _ _ ((ac.put (some 60) _).put (some 63) _) _
        refine wpAnyH_take (i := 1) (v := .agg (KC k)) rfl (by kernel_rfl) (by kernel_rfl) (by kernel_rfl) (fun _ _ _ h => h) (yieldsIf_load_row (by rfl) 27 (.tmp 4) rfl w2.heap.size (by simp [eval_ne, f4]) 27 (KC k) _ (fun W hW => hW.1) Yba.underlying27 rfl (i27 k)) hSd ?_
        change wpAnyH _ _ _ _ _ _ _ (((ac.put (some 60) _).put (some 63) _).put (some 61) _) _
        refine wpAnyH_take (i := 4) (v := .string e) rfl (by kernel_rfl) (by kernel_rfl) (by kernel_rfl) (fun _ _ _ h => h) (Or.inl ⟨by rfl, fun W hW => by have h5 := hW.2; simp [execOp, eval_ne, eval_eq, put_size, fz, f1, f3, f4, f8] <;> go_simp⟩) hSd ?_
        change wpAnyH _ _ _ _ _ _ _ ((((ac.put (some 60) _).put (some 63) _).put (some 61) _).put (some 64) _) _
        refine wpAnyH_take (i := 5) (v := .bool true) rfl (by kernel_rfl) (by kernel_rfl) (by kernel_rfl) (fun _ _ _ h => h) (Or.inl ⟨by rfl, fun W _ => by simp [execOp, eval_ne, eval_eq, put_size, fz, f1, f3, f4, f8] <;> go_simp⟩) hSd ?_
        change wpAnyH _ _ _ _ _ _ _ (((((ac.put (some 60) _).put (some 63) _).put (some 61) _).put (some 64) _).put (some 65) _) _
        rw [unhide heq]
        simp only [Act.put, List.setIfInBounds_toArray, List.set_cons_succ, List.set_cons_zero]
        clear heq fz f1 f3 f4 f8 ac
        refine wpAnyH_all (rs := [2]) (by kernel_rfl) (by simp) (fun i hi => ?_)
        obtain rfl : i = 2 := by simpa using hi
        refine wpOp_step rfl (fun K hK => ?_)
        go_simp
        go_wp2_with fail
        refine (gave_1 G e a k hab (.slice p0 S0.length S0.length) pp cc (S1 ++ [e]) _ (unhide HC5).drew ((unhide HS5).below (Below.refl _ _).drew) (by first | omega | (simp; omega))).mono ?_
        rintro en w6 ⟨rfl, hb6⟩
        rw [show hasB (S1 ++ [e]) e = true from has_last S1 e]
        have HC6 := hide ((unhide HC5).drew.below hb6)
        have hBw6 : Below w.heap.size w w6 := hBw5.drew.trans (hb6.mono hBw5.size)
        have HX6 : Hid (w6.heap[w.heap.size]? = some (.cells (IN a k s a0 S0.length c0 a1 S1.length c1 e) 24 (0, 0))) := by
          show _ = _
          rw [hb6.block _ (by show w.heap.size < w5.heap.size; omega)]; exact unhide HX5
        have HK6 := hide ((hb6.block _ hszK).trans (unhide HK5))
        have k3 : w6.cell? ⟨w.heap.size, 3, none⟩ = some (.slice a0 S0.length c0) := by rw [cell_of_row w6 _ _ _ 24 (0, 0) (unhide HX6)]; rfl
        have k4 : w6.cell? ⟨w.heap.size, 4, none⟩ = some (.slice a1 S1.length c1) := by rw [cell_of_row w6 _ _ _ 24 (0, 0) (unhide HX6)]; rfl
        have k5 : w6.cell? ⟨w.heap.size, 5, none⟩ = some (.string e) := by rw [cell_of_row w6 _ _ _ 24 (0, 0) (unhide HX6)]; rfl
        clear HC5 HS5 HX5 HK5 hSd i3 i4 i5 hb6 hi
        go_wp2_with fail
        refine ⟨⟨unhide HK6, k5⟩, ?_⟩
        refine abs_h (F15b (.bool false) (.bool true) (.bool true)) ⟨rfl, rfl, rfl, rfl⟩ ?_
        rintro ac ⟨fz, f8, f62, f65⟩ heq
        have hSd : w6.heap[w2.heap.size]? = some (.cells (KC k) 27 (0, 0)) ∧ w6.cell? ⟨w.heap.size, 5, none⟩ = some (.string e) := ⟨unhide HK6, k5⟩
        refine wpAnyH_take (i := 6) (v := .bool true) rfl (by kernel_rfl) (by kernel_rfl) (by kernel_rfl) (fun _ _ _ h => h) (Or.inl ⟨by rfl, fun W _ => by simp [execOp, eval_ne, eval_eq, put_size, fz, f8, f62, f65] <;> go_simp⟩) hSd ?_
        change wpAnyH _ _ _ _ _ _ _ (ac.put (some 66) _) _
        refine wpAnyH_take (i := 7) (v := undef) rfl (by kernel_rfl) (by kernel_rfl) (by kernel_rfl) (fun _ _ _ h => h) (Or.inr ⟨by simp [Region.wanted, yielded, Act.put, fz], rfl⟩) hSd ?_
        change wpAnyH _ _ _ _ _ _ _ ((ac.put (some 66) _).put (some 67) _) _
        refine wpAnyH_take (i := 8) (v := .bool true) rfl (by kernel_rfl) (by kernel_rfl) (by kernel_rfl) (fun _ _ _ h => h) (Or.inl ⟨by rfl, fun W _ => by simp [execOp, eval_ne, eval_eq, put_size, fz, f8, f62, f65] <;> go_simp⟩) hSd ?_
        change wpAnyH _ _ _ _ _ _ _ (((ac.put (some 66) _).put (some 67) _).put (some 68) _) _
        refine wpAnyH_take (i := 9) (v := .bool false) rfl (by kernel_rfl) (by kernel_rfl) (by kernel_rfl) (fun _ _ _ h => h) (Or.inl ⟨by rfl, fun W _ => by simp [execOp, eval_ne, eval_eq, put_size, fz, f8, f62, f65] <;> go_simp⟩) hSd ?_
        change wpAnyH _ _ _ _ _ _ _ ((((ac.put (some 66) _).put (some 67) _).put (some 68) _).put (some 69) _) _
        refine wpAnyH_done (by kernel_rfl) ?_ _
        rw [unhide heq]
        simp only [Act.put, List.setIfInBounds_toArray, List.set_cons_succ, List.set_cons_zero]
        clear heq fz f8 f62 f65 ac hSd
        go_wp2
        have e2 := (unhide HC6).at0
        have e3 := (unhide HC6).at1
        go_quiet (first | (go_at_call 9; refine Calls.quiet_of (reads_r G e _ _ p0 S0.length S0.length pp (S1 ++ [e]).length cc ((S0.length : Int) + (S1.length : Int) + 1) _ ((unhide HC6).drewN _) (by first | omega | (simp; omega)) (by first | omega | (simp; omega)) (by first | omega | (simp; omega)))))
        go_wp2
        go_ret
        exact ⟨rfl, ⟨hBw6.os, hBw6.tape, hBw6.output, hBw6.size, hBw6.block⟩⟩


#print axioms givelaw_any
end Go.Proofs.Ybulkbrws
