/-
  The walk of (*channel).gave.
-/
import Derived.Test.YbulkbrwsBuild
namespace Go.Proofs.Ybulkbrws
open Go.ChangeShapes Go.WideShapes Go.ChangeAt Go.RowKit


set_option linter.unusedSimpArgs false in
set_option maxHeartbeats 4000000 in
/-- gave, where the client's place is 0. -/
theorem gave_0 (G : Nat) (e : ByteArray) (a : Int) (KB : Array Value) (p0 : Option Addr) (c0 : Nat) (S0 : List ByteArray) (g1 : Value) (w : World) (hC : Chan w G e (KC a) KB (.slice p0 S0.length c0) g1) (hS : SRow w p0 c0 S0) (hn : S0.length ≤ 2000) :
    Calls Yba.prog 7 #[.pointer (some ⟨G, 0, none⟩), .agg (KC a)] w fun en w' => en = .returned (.bool (hasB S0 e)) ∧ Below w.heap.size w w' := by
  have HC := hide (hC.below ((Below.refl _ _).alloc (Nat.le_refl _) (.cells (KC a) 27)))
  have HS := hide (hS.below ((Below.refl _ _).alloc (Nat.le_refl _) (.cells (KC a) 27)))
  have HB := hide (heap_alloc_new w (.cells (KC a) 27))
  have HW := hide ((Below.refl w.heap.size w).alloc (Nat.le_refl _) (.cells (KC a) 27))
  clear hC hS
  go_enter Yba.func7, Yba.ntmps7
  go_wp2
  generalize w.alloc (.cells (KC a) 27) = W1 at *
  refine wp_region_any (by kernel_rfl) ?_
  try (change wpAny _ _ _ _ _ _ _ (World.drew _))
  refine wpAny_take (i := 0) (v := .pointer (some ⟨G, 0, none⟩)) rfl (by kernel_rfl) (by kernel_rfl) (by kernel_rfl) (fun _ _ _ h => h) (Or.inl ⟨by rfl, fun w => by rfl⟩) ?_
  refine wpAny_take (i := 1) (v := .pointer (some ⟨G, 0, none⟩)) rfl (by kernel_rfl) (by kernel_rfl) (by kernel_rfl) (fun _ _ _ h => h) (Or.inl ⟨by rfl, fun w => by rfl⟩) ?_
  refine wpAny_take (i := 4) (v := .pointer (some ⟨G, 0, none⟩)) rfl (by kernel_rfl) (by kernel_rfl) (by kernel_rfl) (fun _ _ _ h => h) (Or.inl ⟨by rfl, fun w => by go_simp⟩) ?_
  refine wpAny_take (i := 5) (v := .pointer (some ⟨G, 69, none⟩)) rfl (by kernel_rfl) (by kernel_rfl) (by kernel_rfl) (fun _ _ _ h => h) (Or.inl ⟨by rfl, fun w => by go_simp⟩) ?_
  refine wpAny_take (i := 9) (v := .int .i64 0) rfl (by kernel_rfl) (by kernel_rfl) (by kernel_rfl) (fun _ _ _ h => h) (Or.inl ⟨by rfl, fun w => by rfl⟩) ?_
  refine wpAny_ready (rs := [2]) (by kernel_rfl) (by simp) ?_
  refine AllReady.cons rfl (fun K hK => ?_) AllReady.nil
  rw [if_pos (by rfl)]
  refine wp_load_row 27 (.tmp 3) rfl w.heap.size rfl 27 (KC a) (0, 0) _ (unhide HB) Yba.underlying27 rfl (i27 a) ?_
  refine hK _ _ ?_
  clear hK K
  refine wpAny_ready (rs := [3]) (by kernel_rfl) (by simp) ?_
  refine AllReady.cons rfl (fun K hK => ?_) AllReady.nil
  go_simp
  go_wp2_with fail
  refine (slot_0 G e a KB (.slice p0 S0.length c0) g1 _ (unhide HC).drew).mono ?_
  rintro en w' ⟨rfl, hb⟩
  go_wp2_with fail
  have HC2 := hide ((unhide HC).drew.below hb)
  have HS2 := hide (((unhide HS).below (Below.refl _ _).drew).below hb)
  have hBw : Below w.heap.size w w' := (unhide HW).drew.trans (hb.mono (unhide HW).size)
  have cg := (unhide HC2).at0
  have ce := (unhide HC2).etag
  clear HC HS HB HW hb
  refine wpAny_take (i := 6) (v := .pointer (some ⟨G, 69, none⟩)) rfl (by kernel_rfl) (by kernel_rfl) (by kernel_rfl) (fun _ _ _ h => h) (Or.inl ⟨by rfl, fun w => by go_simp⟩) ?_
  refine wpAny_ready (rs := [7]) (by kernel_rfl) (by simp) ?_
  refine AllReady.cons rfl (fun K hK => ?_) AllReady.nil
  go_simp
  refine hK _ _ ?_
  clear hK K
  refine wpAny_take (i := 8) (v := .int .i64 S0.length) rfl (by kernel_rfl) (by kernel_rfl) (by kernel_rfl) (fun _ _ _ h => h) (Or.inl ⟨by rfl, fun w => by go_simp⟩) ?_
  refine wpAny_done (by kernel_rfl) ?_ _
  go_wp2
  simp [Act.put]
  go_loop [16] (fun i => ∃ k : Nat, k ≤ S0.length ∧ i = .int .i64 k ∧ Hid (hasB (S0.take k) e = false)) (fun i => S0.length - (intOf i).toNat)
  case atStart => exact ⟨0, Nat.zero_le _, rfl, (rfl : hasB (S0.take 0) e = false)⟩
  case round =>
    obtain ⟨k, hk, rfl, hno⟩ := hrel
    by_cases hlt : k < S0.length
    · obtain ⟨bb, boff, rfl, hbb, hc⟩ := (unhide HS2).2 (by omega)
      have q0 := hc k hlt
      clear hc
      by_cases hq : (S0[k].toList == e.toList) = true
      · have HF := hide (has_hit S0 e k hlt hq)
        go_wp2
        go_ret
        exact ⟨by rw [unhide HF]; rfl, hBw⟩
      · have hq' : (S0[k].toList == e.toList) = false := by simpa using hq
        have HF := hide (take_any S0 e k hlt (unhide hno) hq')
        clear hq
        go_wp2
        go_round
        case rel => exact ⟨k + 1, by omega, by go_num, HF⟩
        case measure => simp [intOf]; omega
    · have HF : Hid (hasB S0 e = false) := by
        have := unhide hno
        rwa [List.take_of_length_le (by omega)] at this
      go_wp2
      go_ret
      exact ⟨by rw [unhide HF]; rfl, hBw⟩


set_option linter.unusedSimpArgs false in
set_option maxHeartbeats 4000000 in
/-- gave, where the client's place is 1. -/
theorem gave_1 (G : Nat) (e : ByteArray) (a b : Int) (hab : (a == b) = false) (g0 : Value) (p1 : Option Addr) (c1 : Nat) (S1 : List ByteArray) (w : World) (hC : Chan w G e (KC a) (KC b) g0 (.slice p1 S1.length c1)) (hS : SRow w p1 c1 S1) (hn : S1.length ≤ 2000) :
    Calls Yba.prog 7 #[.pointer (some ⟨G, 0, none⟩), .agg (KC b)] w fun en w' => en = .returned (.bool (hasB S1 e)) ∧ Below w.heap.size w w' := by
  have HC := hide (hC.below ((Below.refl _ _).alloc (Nat.le_refl _) (.cells (KC b) 27)))
  have HS := hide (hS.below ((Below.refl _ _).alloc (Nat.le_refl _) (.cells (KC b) 27)))
  have HB := hide (heap_alloc_new w (.cells (KC b) 27))
  have HW := hide ((Below.refl w.heap.size w).alloc (Nat.le_refl _) (.cells (KC b) 27))
  clear hC hS
  go_enter Yba.func7, Yba.ntmps7
  go_wp2
  generalize w.alloc (.cells (KC b) 27) = W1 at *
  refine wp_region_any (by kernel_rfl) ?_
  try (change wpAny _ _ _ _ _ _ _ (World.drew _))
  refine wpAny_take (i := 0) (v := .pointer (some ⟨G, 0, none⟩)) rfl (by kernel_rfl) (by kernel_rfl) (by kernel_rfl) (fun _ _ _ h => h) (Or.inl ⟨by rfl, fun w => by rfl⟩) ?_
  refine wpAny_take (i := 1) (v := .pointer (some ⟨G, 0, none⟩)) rfl (by kernel_rfl) (by kernel_rfl) (by kernel_rfl) (fun _ _ _ h => h) (Or.inl ⟨by rfl, fun w => by rfl⟩) ?_
  refine wpAny_take (i := 4) (v := .pointer (some ⟨G, 0, none⟩)) rfl (by kernel_rfl) (by kernel_rfl) (by kernel_rfl) (fun _ _ _ h => h) (Or.inl ⟨by rfl, fun w => by go_simp⟩) ?_
  refine wpAny_take (i := 5) (v := .pointer (some ⟨G, 69, none⟩)) rfl (by kernel_rfl) (by kernel_rfl) (by kernel_rfl) (fun _ _ _ h => h) (Or.inl ⟨by rfl, fun w => by go_simp⟩) ?_
  refine wpAny_take (i := 9) (v := .int .i64 0) rfl (by kernel_rfl) (by kernel_rfl) (by kernel_rfl) (fun _ _ _ h => h) (Or.inl ⟨by rfl, fun w => by rfl⟩) ?_
  refine wpAny_ready (rs := [2]) (by kernel_rfl) (by simp) ?_
  refine AllReady.cons rfl (fun K hK => ?_) AllReady.nil
  rw [if_pos (by rfl)]
  refine wp_load_row 27 (.tmp 3) rfl w.heap.size rfl 27 (KC b) (0, 0) _ (unhide HB) Yba.underlying27 rfl (i27 b) ?_
  refine hK _ _ ?_
  clear hK K
  refine wpAny_ready (rs := [3]) (by kernel_rfl) (by simp) ?_
  refine AllReady.cons rfl (fun K hK => ?_) AllReady.nil
  go_simp
  go_wp2_with fail
  refine (slot_1 G e a b hab g0 (.slice p1 S1.length c1) _ (unhide HC).drew).mono ?_
  rintro en w' ⟨rfl, hb⟩
  go_wp2_with fail
  have HC2 := hide ((unhide HC).drew.below hb)
  have HS2 := hide (((unhide HS).below (Below.refl _ _).drew).below hb)
  have hBw : Below w.heap.size w w' := (unhide HW).drew.trans (hb.mono (unhide HW).size)
  have cg := (unhide HC2).at1
  have ce := (unhide HC2).etag
  clear HC HS HB HW hb
  refine wpAny_take (i := 6) (v := .pointer (some ⟨G, 70, none⟩)) rfl (by kernel_rfl) (by kernel_rfl) (by kernel_rfl) (fun _ _ _ h => h) (Or.inl ⟨by rfl, fun w => by go_simp⟩) ?_
  refine wpAny_ready (rs := [7]) (by kernel_rfl) (by simp) ?_
  refine AllReady.cons rfl (fun K hK => ?_) AllReady.nil
  go_simp
  refine hK _ _ ?_
  clear hK K
  refine wpAny_take (i := 8) (v := .int .i64 S1.length) rfl (by kernel_rfl) (by kernel_rfl) (by kernel_rfl) (fun _ _ _ h => h) (Or.inl ⟨by rfl, fun w => by go_simp⟩) ?_
  refine wpAny_done (by kernel_rfl) ?_ _
  go_wp2
  simp [Act.put]
  go_loop [16] (fun i => ∃ k : Nat, k ≤ S1.length ∧ i = .int .i64 k ∧ Hid (hasB (S1.take k) e = false)) (fun i => S1.length - (intOf i).toNat)
  case atStart => exact ⟨0, Nat.zero_le _, rfl, (rfl : hasB (S1.take 0) e = false)⟩
  case round =>
    obtain ⟨k, hk, rfl, hno⟩ := hrel
    by_cases hlt : k < S1.length
    · obtain ⟨bb, boff, rfl, hbb, hc⟩ := (unhide HS2).2 (by omega)
      have q0 := hc k hlt
      clear hc
      by_cases hq : (S1[k].toList == e.toList) = true
      · have HF := hide (has_hit S1 e k hlt hq)
        go_wp2
        go_ret
        exact ⟨by rw [unhide HF]; rfl, hBw⟩
      · have hq' : (S1[k].toList == e.toList) = false := by simpa using hq
        have HF := hide (take_any S1 e k hlt (unhide hno) hq')
        clear hq
        go_wp2
        go_round
        case rel => exact ⟨k + 1, by omega, by go_num, HF⟩
        case measure => simp [intOf]; omega
    · have HF : Hid (hasB S1 e = false) := by
        have := unhide hno
        rwa [List.take_of_length_le (by omega)] at this
      go_wp2
      go_ret
      exact ⟨by rw [unhide HF]; rfl, hBw⟩

#print axioms gave_0
#print axioms gave_1
end Go.Proofs.Ybulkbrws
