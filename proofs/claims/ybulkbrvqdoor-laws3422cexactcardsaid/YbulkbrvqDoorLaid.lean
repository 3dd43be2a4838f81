/-
  From the listed variables' data to what the walks ask of netip's three variables.
-/
import Derived.Test.YbulkbrvqDoorLaw
import Derived.LaidMore
import Derived.OpenShut
import Derived.Stop.Joined
namespace Go.Proofs.YbulkbrvqDoor
open Go.ChangeShapes Go.WideShapes Go.ChangeAt Go.WideMaps Go.WideElems Go.RowKit

/-- The row's own list, and its variables' names. -/
abbrev laid3 : List (String × DataW Unit) := Rows.lawS3422CExactRow.laid
abbrev nm (i : Nat) : String := Rows.lawS3422CExactRow.named.getD i ""

theorem gZ4 : Ybad.prog.globalNamed (nm 0) = some 1 := by kernel_rfl
theorem gZ6 : Ybad.prog.globalNamed (nm 1) = some 2 := by kernel_rfl
theorem gZ0 : Ybad.prog.globalNamed (nm 3) = some 3 := by kernel_rfl
theorem tZ4 : (Ybad.prog.globals[1]?).map (·.type) = some 30 := by kernel_rfl
theorem tZ6 : (Ybad.prog.globals[2]?).map (·.type) = some 30 := by kernel_rfl
theorem tZ0 : (Ybad.prog.globals[3]?).map (·.type) = some 30 := by kernel_rfl
theorem c72 : Ybad.prog.cellsOf 72 = 2 := by kernel_rfl
theorem c28 : Ybad.prog.cellsOf 28 = 1 := by kernel_rfl
theorem c30 : Ybad.prog.cellsOf 30 = 1 := by kernel_rfl
theorem c4 : Ybad.prog.cellsOf 4 = 1 := by kernel_rfl

/-- A handle that leads to an addrDetail, opened: its pointer, the detail's first cell, and its place among what was read. -/
theorem open_handle {W : World} {f : Nat} {cs : List Value} {b : Bool} {s : List UInt8} {p : List MemPlace}
    (h : DataW.trod (fun _ => ()) Ybad.prog W 0 (fun _ => true) false f 30 cs = some (.agg [.ptr (.agg [.lit (.bool b), .lit (.string s)])], p)) :
    ∃ a, cs = [.pointer (some a)] ∧ W.cell? a = some (.bool b) ∧ MemPlace.cell a.block a.off ∈ p := by
  obtain ⟨y0, n, hx, hl, h0⟩ := trod_struct1 Ybad.underlying30 h
  rw [c30] at hl
  match cs, hl with
  | [c], _ =>
    simp [c28] at h0
    simp only [Prod.mk.injEq, DataW.agg.injEq, List.cons.injEq, and_true] at hx
    rcases DataW.trod_pointer Ybad.underlying28 h0 with ⟨_, hy⟩ | ⟨a, cs', y, m, _, hc, hy, hcs, hd⟩
    · rw [hy] at hx; simp at hx
    · simp at hc
      subst hc
      rw [hy] at hx
      simp only [DataW.ptr.injEq] at hx
      rw [c72] at hcs
      obtain ⟨_, hlen, hcell⟩ := World.cells?_some hcs
      obtain ⟨z0, z1, k, hz, _, g0, _⟩ := trod_struct2 Ybad.underlying72 hd
      obtain ⟨b', e1, e2⟩ := DataW.trod_bool Ybad.underlying4 g0
      have hb : b' = b := by
        rw [hz] at hx
        have := hx.1
        rw [e2] at this
        simp at this
        exact this.1.symm
      subst hb
      refine ⟨a, rfl, ?_, ?_⟩
      · have h2 := hcell 0 (by omega)
        match cs', hlen with
        | [u0, u1], _ =>
          simp [c4] at e1
          subst e1
          simpa [Addr.add] using h2
      · rw [hx.2, c72]
        exact List.mem_append.2 (.inl (MemPlace.mem_row.2 ⟨0, by omega, by simp⟩))

/-- A handle that holds nil. -/
theorem open_handle_nil {W : World} {f : Nat} {cs : List Value} {p : List MemPlace} (h : DataW.trod (fun _ => ()) Ybad.prog W 0 (fun _ => true) false f 30 cs = some (.agg [.nil], p)) : cs = [.pointer none] := by
  obtain ⟨y0, n, hx, hl, h0⟩ := trod_struct1 Ybad.underlying30 h
  rw [c30] at hl
  match cs, hl with
  | [c], _ =>
    simp [c28] at h0
    simp only [Prod.mk.injEq, DataW.agg.injEq, List.cons.injEq, and_true] at hx
    rcases DataW.trod_pointer Ybad.underlying28 h0 with ⟨hc, _⟩ | ⟨a, cs', y, m, _, hc, hy, hcs, hd⟩
    · simpa using hc
    · rw [hy] at hx; simp at hx

theorem of_laid {W : World} (h : laidMetH Ybad.prog laid3 W) : ∃ a4 a6, Gl W a4 a6 := by
  rw [MakeChecks.laidMetH_plain _ _ _ (by kernel_rfl)] at h
  obtain ⟨ps, ⟨g0, t0, cs0, f0, p0, q0, hg0, ht0, hv0, hd0, ⟨g1, t1, cs1, f1, p1, q1, hg1, ht1, hv1, hd1, ⟨g2, t2, cs2, f2, p2, q2, hg2, ht2, hv2, hd2, hq2, hq1⟩, hq0⟩, hps⟩, _, hfr⟩ := h
  obtain rfl := Option.some.inj (gZ4.symm.trans hg0)
  obtain rfl := Option.some.inj (gZ6.symm.trans hg1)
  obtain rfl := Option.some.inj (gZ0.symm.trans hg2)
  obtain rfl := Option.some.inj (tZ4.symm.trans ht0)
  obtain rfl := Option.some.inj (tZ6.symm.trans ht1)
  obtain rfl := Option.some.inj (tZ0.symm.trans ht2)
  obtain ⟨a4, e4, k4, m4⟩ := open_handle hd0
  obtain ⟨a6, e6, k6, m6⟩ := open_handle hd1
  have e0 := open_handle_nil hd2
  have v4 := World.var?_cell hg0 hv0 0
  have v6 := World.var?_cell hg1 hv1 0
  have v0 := World.var?_cell hg2 hv2 0
  obtain ⟨l0⟩ := cs0
  obtain ⟨l1⟩ := cs1
  obtain ⟨l2⟩ := cs2
  simp only at e4 e6 e0
  subst e4; subst e6; subst e0
  simp at v4 v6 v0
  refine ⟨a4, a6, v4, v6, v0, ?_, ?_, ?_, ?_⟩
  · have := World.block_lt_of_cell? _ _ v0
    exact this
  · intro e
    rw [e, k6] at k4
    simp at k4
  · refine (hfr a4.block a4.off ?_).1
    rw [hps]
    exact List.mem_append.2 (.inl (List.mem_append.2 (.inr m4)))
  · refine (hfr a6.block a6.off ?_).1
    rw [hps, hq0]
    exact List.mem_append.2 (.inr (List.mem_append.2 (.inl (List.mem_append.2 (.inr m6)))))

/-- A start that meets the condition: the settled world, a block for each of the two details, the variables pointing there. -/
theorem start_met (os : Os) (args : Array Value) : laidMetH Ybad.prog laid3 (({ World.holding Ybad.prog os ⟨#[.cells #[.bool false, .string ⟨#[]⟩] 72, .cells #[.bool true, .string ⟨#[]⟩] 72], #[], []⟩ with
      heap := ((World.holding Ybad.prog os ⟨#[.cells #[.bool false, .string ⟨#[]⟩] 72, .cells #[.bool true, .string ⟨#[]⟩] 72], #[], []⟩).heap.modify 1 fun
        | .cells _ t frozen => .cells #[.pointer (some ⟨9, 0, none⟩)] t frozen
        | o => o).modify 2 fun
        | .cells _ t frozen => .cells #[.pointer (some ⟨10, 0, none⟩)] t frozen
        | o => o } : World).forCall (fun _ _ => 0) ⟨#[], args, []⟩).memory :=
  laidMetH_of_parts3 (fuel := 8) (laidMet_of_run' 8 (by kernel_rfl) (by kernel_rfl)) (by kernel_rfl) (by kernel_rfl)

#print axioms of_laid
#print axioms start_met
end Go.Proofs.YbulkbrvqDoor
