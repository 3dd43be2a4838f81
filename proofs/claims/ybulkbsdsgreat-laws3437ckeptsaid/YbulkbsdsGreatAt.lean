/-
  paged.at: its contract.
-/
import Derived.Test.YbulkbsdsGreatPaged
namespace Go.Proofs.YbulkbsdsGreat
open Go.RowKit

theorem info85 : (Ybaz.prog.info? 85).map (fun i => (i.zero, i.size, i.bytes)) = some (some (.int .i32 0), 1, 4) := by kernel_rfl
theorem info48 : (Ybaz.prog.info? 48).map (fun i => (i.zero, i.size, i.bytes)) = some (some (.slice none 0 0), 1, 24) := by kernel_rfl

/-- make([]nodeID, l). -/
theorem make_page (l : Nat) (hl : l ≤ 1024) : ∃ Z : Array Value, Z.size = l ∧ ∀ w : World, Sem.run Ybaz.prog (Instr.makeSlice 48 (.int .i64 (l : Int)) (.int .i64 (l : Int))) w = .ok (.slice (some ⟨w.heap.size, 0, none⟩) l l) (w.alloc (.cells Z 85)) := by
  obtain ⟨i85, hi, hz, hs, hb⟩ := info_parts info85
  refine ⟨madeCells (Value.int .i32 0).cells ((l : Int).toNat * i85.size), by rw [size_madeCells, hs]; simp, fun w => ?_⟩
  have := run_make (P := Ybaz.prog) w 48 85 i85 (.int .i32 0) Ybaz.underlying48 hi hz .i64 .i64 (l : Int) (l : Int) (by omega) (Int.le_refl _) (by rw [hb]; omega) (by omega)
  simpa using this

set_option maxRecDepth 100000 in
set_option maxHeartbeats 1000000 in
/-- The page is there. -/
theorem at_have (E O i b : Nat) (v : Value) (vs : List Value) (f : Nat → Option Nat) (w : World) (hi : i < 4096) (h : Paged w E O v vs f) (hf : f (pgOf i) = some b) :
    Calls Ybaz.prog 4 #[.pointer (some ⟨E, O, none⟩), .int .i64 (i : Int)] w fun e w' => e = .returned (.pointer (some ⟨b, plOf i, none⟩)) ∧ w = w' := by
  have hp : pgOf i < vs.length := by
    rcases Nat.lt_or_ge (pgOf i) vs.length with h' | h'
    · exact h'
    · rw [h.out _ h'] at hf; cases hf
  obtain ⟨g, cap, rfl, hc, _⟩ := h.cellAt hp
  have hE := h.here
  have hfew := h.few
  rw [hf] at hc
  obtain ⟨hpl, hln⟩ := (page_facts i hi).2
  have hl := lnOf_le (pgOf i)
  have HP := hide (page_any i hi)
  have H := hide h
  clear h
  unfold pv at hc
  generalize hpp : pgOf i = p at *
  generalize hcc : plOf i = c at *
  generalize hll : lnOf p = l at *
  generalize hvv : vs.length = n at *
  have hp1 : ¬ (n : Int) ≤ (p : Int) := by omega
  have hp2 : (p : Int) < (n : Int) := by omega
  have hp3 : (c : Int) < (l : Int) := by omega
  have hq := Go.Lib.run_eql_slice_nil (P := Ybaz.prog) w 48 85 (some ⟨b, 0, none⟩ : Option Addr) l l 0 0 Ybaz.underlying48
  go_enter Ybaz.func4, Ybaz.ntmps4
  go_wp2_with fail
  refine (unhide HP _).mono ?_
  rintro e w' ⟨rfl, rfl⟩
  go_wp2_with fail
  go_ret
  exact ⟨rfl, rfl⟩

/-- What a call of at leaves. -/
def AtPost (w : World) (E O i : Nat) (f : Nat → Option Nat) (e : Ending) (w' : World) : Prop :=
  ∃ b v' vs' f', e = .returned (.pointer (some ⟨b, plOf i, none⟩)) ∧ Paged w' E O v' vs' f' ∧ f' (pgOf i) = some b ∧ (∀ q b', f q = some b' → f' q = some b' ∧ w'.heap[b']? = w.heap[b']?) ∧ Below E w w'

set_option maxRecDepth 100000 in
set_option maxHeartbeats 1000000 in
/-- The page is to be made; its cell is there. -/
theorem at_make (E O i : Nat) (v : Value) (vs : List Value) (f : Nat → Option Nat) (w : World) (hi : i < 4096) (h : Paged w E O v vs f) (hf : f (pgOf i) = none) (hp : pgOf i < vs.length) :
    Calls Ybaz.prog 4 #[.pointer (some ⟨E, O, none⟩), .int .i64 (i : Int)] w fun e w' => AtPost w E O i f e w' := by
  have hfew := h.few
  obtain ⟨hpl, hln⟩ := (page_facts i hi).2
  have hl := lnOf_le (pgOf i)
  have HP := hide (page_any i hi)
  obtain ⟨g, cap, hge, hc, hfz, hEg, hgs⟩ := h.cellAt hp
  have hE := h.here
  rw [hf] at hc
  rw [hge] at hE
  rw [hge] at h
  have Hh := hide h
  obtain ⟨Z, hZ, hmk⟩ := make_page (lnOf (pgOf i)) (by omega)
  obtain ⟨m1, m2, m3⟩ := h.made hp hf hZ
  have hblk : (w.alloc (.cells Z 85)).heap[g]? = w.heap[g]? := Below.heap_alloc w _ g hgs
  have hfa : (w.alloc (.cells Z 85)).frozen? ⟨g, pgOf i, none⟩ = false := (World.frozen?_of_block (w := w) (a := ⟨g, pgOf i, none⟩) hblk).trans hfz
  have hca : (w.alloc (.cells Z 85)).cell? ⟨g, pgOf i, none⟩ = some (.slice none 0 0) := (World.cell?_of_block (w := w) (a := ⟨g, pgOf i, none⟩) hblk).trans hc
  have hea : ((w.alloc (.cells Z 85)).setCell ⟨g, pgOf i, none⟩ (pv (pgOf i) (some w.heap.size))).cell? ⟨E, O, none⟩ = some (.slice (some ⟨g, 0, none⟩) vs.length cap) := m1.here
  have hga : ((w.alloc (.cells Z 85)).setCell ⟨g, pgOf i, none⟩ (pv (pgOf i) (some w.heap.size))).cell? ⟨g, pgOf i, none⟩ = some (pv (pgOf i) (some w.heap.size)) := World.cell?_setCell_same' _ _ _ (by rw [hca]; rfl)
  have n1 := World.new_ne w ⟨g, pgOf i, none⟩ hc
  have n2 := World.new_ne w ⟨E, O, none⟩ hE
  have hq := Go.Lib.run_eql_slice_nil (P := Ybaz.prog) w 48 85 (Option.none : Option Addr) 0 0 0 0 Ybaz.underlying48
  have M1 := hide m1
  have M2 := hide m2
  have M3 := hide m3
  clear h m1 m2 m3 hblk hgs
  unfold pv at hc hea hga
  subst hge
  have hD : Hid (∀ e w', e = Ending.returned (.pointer (some ⟨w.heap.size, plOf i, none⟩)) → w' = ((w.alloc (.cells Z 85)).setCell ⟨g, pgOf i, none⟩ (.slice (some ⟨w.heap.size, 0, none⟩) (lnOf (pgOf i)) (lnOf (pgOf i)))).drew → AtPost w E O i f e w') := by
    rintro e w' rfl rfl
    exact ⟨_, _, _, _, rfl, unhide M1, by simp [upd], unhide M2, unhide M3⟩
  generalize hpp : pgOf i = p at *
  generalize hcc : plOf i = c at *
  generalize hll : lnOf p = l at *
  generalize hvv : vs.length = n at *
  have hp1 : ¬ (n : Int) ≤ (p : Int) := by omega
  have hp2 : (p : Int) < (n : Int) := by omega
  have hp0 : (0 : Int) ≤ (p : Int) := by omega
  have hp3 : (c : Int) < (l : Int) := by omega
  go_enter Ybaz.func4, Ybaz.ntmps4
  go_wp2_with fail
  refine (unhide HP _).mono ?_
  rintro e w' ⟨rfl, rfl⟩
  go_wp2_with fail
  go_region_held3 (fun w' => w'.cell? ⟨E, O, none⟩ = some (.slice (some ⟨g, 0, none⟩) n cap)) (go_keep) (fail)
  go_wp2_with fail
  go_ret
  exact unhide hD _ _ rfl rfl

theorem wrap_grow {p n : Nat} (h : n ≤ p) (hp : p ≤ 100) : IntKind.i64.wrap (IntKind.i64.wrap ((p : Int) + 1) - (n : Int)) = ((p + 1 - n : Nat) : Int) := by
  rw [IntKind.wrap_i64, IntKind.wrap_i64]
  omega

theorem Paged.v_form {w : World} {E O : Nat} {v : Value} {vs : List Value} {f : Nat → Option Nat} (h : Paged w E O v vs f) : ∃ a cap, v = .slice a vs.length cap := by
  rcases h.row.2 with ⟨rfl, h0⟩ | ⟨g, cap, cur, rfl, _⟩
  · exact ⟨_, _, by rw [h0]⟩
  · exact ⟨_, _, rfl⟩

set_option maxRecDepth 100000 in
set_option maxHeartbeats 2000000 in
/-- The pages are to be lengthened; the page is to be made. -/
theorem at_grow (E O i : Nat) (v : Value) (vs : List Value) (f : Nat → Option Nat) (w : World) (hi : i < 4096) (h : Paged w E O v vs f) (hp : vs.length ≤ pgOf i) :
    Calls Ybaz.prog 4 #[.pointer (some ⟨E, O, none⟩), .int .i64 (i : Int)] w fun e w' => AtPost w E O i f e w' := by
  obtain ⟨i48, hi48, hy48, hx48, hb48⟩ := info_parts info48
  obtain ⟨va, vc, rfl⟩ := h.v_form
  have hE0 := h.here
  have hlt := h.lt
  obtain ⟨hpl, hln⟩ := (page_facts i hi).2
  have hp9 := (page_facts i hi).1
  have hl := lnOf_le (pgOf i)
  have HP := hide (page_any i hi)
  have hwr := wrap_grow hp (by omega)
  have HWR := hide hwr
  clear hwr
  have hne : Hid (some E ≠ Value.ownBlock (.slice va vs.length vc)) := fun e => h.not_E e.symm
  have HH := hide h
  have hf : f (pgOf i) = none := h.out _ hp
  have HF := hide hf
  clear h hf
  have hp1 : ((vs.length : Nat) : Int) ≤ (pgOf i : Int) := by omega
  go_enter Ybaz.func4, Ybaz.ntmps4
  go_wp2_with fail
  refine (unhide HP _).mono ?_
  rintro e w' ⟨rfl, rfl⟩
  go_wp2_with fail
  go_region_law ((refine step_append_zeros _ (by rfl) _ _ 30 3 (by rfl) 48 i48 (.slice none 0 0) .i64 .i64 Ybaz.underlying30 Ybaz.underlying3 hi48 hy48 hx48 (by omega) rfl rfl (E + 1) _ vs.length vs (by rfl) (by exact (unhide HH).row) (pgOf i + 1 - vs.length) _ (by rfl) (unhide HWR) (by omega) (pgOf i + 1) (by omega) (by omega) (by simp; omega) ?_; intro g0 cap0 w1 hown1 hgrow; have hce : w1.cell? ⟨E, O, none⟩ = some (.slice va vs.length vc) := (hgrow.cell_far ⟨E, O, none⟩ (by simpa using hlt) (unhide hne)).trans (by simpa using hE0); have hfe : w1.frozen? ⟨E, O, none⟩ = false := (hgrow.frozen_far ⟨E, O, none⟩ (by simpa using hlt) (unhide hne)).trans (by simpa using (unhide HH).free)))
  all_goals
    have hgw : w.grownBy w1 (Value.ownBlock (.slice va vs.length vc)) := ⟨hgrow.os, hgrow.tape, hgrow.output, hgrow.size, hgrow.block⟩
    obtain ⟨PG, PK, PB⟩ := (unhide HH).grown hgw (by omega : vs.length + (pgOf i + 1 - vs.length) = pgOf i + 1) (by omega) hown1
    have hvl : pgOf i + 1 = (vs ++ List.replicate (pgOf i + 1 - vs.length) (Value.slice none 0 0)).length := by simp; omega
    generalize vs ++ List.replicate (pgOf i + 1 - vs.length) (Value.slice none 0 0) = VSL at *
    rw [hvl] at PG PK PB
    simp only [hvl]
    have PLT : pgOf i < VSL.length := by omega
    clear hown1 hgrow hgw hce hfe
    generalize w1.setCell ⟨E, O, none⟩ (.slice (some ⟨g0, 0, none⟩) VSL.length cap0) = WW at *
    have PKH := hide PK
    have PBH := hide PB
    have HVL := hide hvl
    clear PK PB hvl
    obtain ⟨g, cap, hge, hc, hfz, hEg, hgs⟩ := PG.cellAt PLT
    have hE := PG.here
    rw [(unhide HF)] at hc
    rw [hge] at hE
    rw [hge] at PG
    have HPG := hide PG
    obtain ⟨Z, hZ, hmk⟩ := make_page (lnOf (pgOf i)) (by omega)
    obtain ⟨m1, m2, m3⟩ := PG.made PLT (unhide HF) hZ
    have hblk : (WW.alloc (.cells Z 85)).heap[g]? = WW.heap[g]? := Below.heap_alloc WW _ g hgs
    have hfa : (WW.alloc (.cells Z 85)).frozen? ⟨g, pgOf i, none⟩ = false := (World.frozen?_of_block (w := WW) (a := ⟨g, pgOf i, none⟩) hblk).trans hfz
    have hca : (WW.alloc (.cells Z 85)).cell? ⟨g, pgOf i, none⟩ = some (.slice none 0 0) := (World.cell?_of_block (w := WW) (a := ⟨g, pgOf i, none⟩) hblk).trans hc
    have hea : ((WW.alloc (.cells Z 85)).setCell ⟨g, pgOf i, none⟩ (pv (pgOf i) (some WW.heap.size))).cell? ⟨E, O, none⟩ = some (.slice (some ⟨g, 0, none⟩) VSL.length cap) := m1.here
    have hga : ((WW.alloc (.cells Z 85)).setCell ⟨g, pgOf i, none⟩ (pv (pgOf i) (some WW.heap.size))).cell? ⟨g, pgOf i, none⟩ = some (pv (pgOf i) (some WW.heap.size)) := World.cell?_setCell_same' _ _ _ (by rw [hca]; rfl)
    have n1 := World.new_ne WW ⟨g, pgOf i, none⟩ hc
    have n2 := World.new_ne WW ⟨E, O, none⟩ hE
    have hq := Go.Lib.run_eql_slice_nil (P := Ybaz.prog) WW 48 85 (Option.none : Option Addr) 0 0 0 0 Ybaz.underlying48
    have M1 := hide m1
    have M2 := hide m2
    have M3 := hide m3
    clear PG m1 m2 m3 hblk hgs
    unfold pv at hc hea hga
    obtain ⟨rfl, rfl⟩ : g0 = g ∧ cap0 = cap := by simpa using hge
    clear hge
    have hD : Hid (∀ e w', e = Ending.returned (.pointer (some ⟨WW.heap.size, plOf i, none⟩)) → w' = ((WW.alloc (.cells Z 85)).setCell ⟨g0, pgOf i, none⟩ (.slice (some ⟨WW.heap.size, 0, none⟩) (lnOf (pgOf i)) (lnOf (pgOf i)))).drew → AtPost w E O i f e w') := by
      rintro e w' rfl rfl
      exact ⟨_, _, _, _, rfl, unhide M1, by simp [upd], fun q b hb => ⟨((unhide M2) q b hb).1, ((unhide M2) q b hb).2.trans ((unhide PKH) q b hb)⟩, (unhide PBH).trans (unhide M3)⟩
    generalize hpp : pgOf i = p at *
    generalize hcc : plOf i = c at *
    generalize hll : lnOf p = l at *
    generalize hvv : VSL.length = n at *
    have hq2 : (p : Int) < (n : Int) := by omega
    have hq0 : (0 : Int) ≤ (p : Int) := by omega
    have hq3 : (c : Int) < (l : Int) := by omega
    clear hE0 hlt
    go_wp2_with fail
    go_region_held3 (fun w' => w'.cell? ⟨E, O, none⟩ = some (.slice (some ⟨g0, 0, none⟩) n cap0)) (go_keep) (fail)
    go_wp2_with fail
    go_ret
    exact unhide hD _ _ rfl rfl

/-- at, however the pages stand. -/
theorem at_any (E O i : Nat) (v : Value) (vs : List Value) (f : Nat → Option Nat) (w : World) (hi : i < 4096) (h : Paged w E O v vs f) :
    Calls Ybaz.prog 4 #[.pointer (some ⟨E, O, none⟩), .int .i64 (i : Int)] w fun e w' => AtPost w E O i f e w' := by
  cases hf : f (pgOf i) with
  | some b =>
    refine (at_have E O i b v vs f w hi h hf).mono ?_
    rintro e w' ⟨rfl, rfl⟩
    exact ⟨b, v, vs, f, rfl, h, hf, fun q b' hb => ⟨hb, rfl⟩, Below.refl _ _⟩
  | none =>
    rcases Nat.lt_or_ge (pgOf i) vs.length with h' | h'
    · exact at_make E O i v vs f w hi h hf h'
    · exact at_grow E O i v vs f w hi h h'

#print axioms at_any

end Go.Proofs.YbulkbsdsGreat
