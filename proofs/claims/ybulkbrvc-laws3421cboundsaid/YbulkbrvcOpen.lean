/-
  A '[]ZzS3421CStep' that came in, opened: its elements as pairs of strings in memory.
-/
import Derived.Test.YbulkbrvcModel
import Derived.OpenShut
import Derived.ChangeOld
import Derived.Deep.SlicePairs
namespace Go.Proofs.Ybulkbrvc
open Go.ChangeShapes Go.WideShapes Go.ChangeAt Go.RowKit
open Go.Deep

theorem Yba.own : ownKnob Yba.prog.godebug = none := by kernel_rfl
theorem Yba.cells25 : Yba.prog.cellsOf 25 = 2 := by kernel_rfl

theorem open_steps {H : Type} {enc : TypeId × Value → H} {W : World} {sp : Nat → Bool} {held : Bool} {a : Option Addr} {len cap : Nat} {d : DataW H} {p : List MemPlace}
    (h : DataW.Trod enc Yba.prog W 0 sp held 22 (.slice a len cap) d p) : len ≤ maxLen ∧ ∃ Ps : List Pr, Ps.length = len ∧ Steps0 W a Ps := by
  obtain ⟨fuel, hf⟩ := h
  rcases open_slice_pairs Yba.underlying22 Yba.underlying25 Yba.cells25 rfl rfl Yba.cells9 Yba.cells9 hf with ⟨hcs, _⟩ | ⟨x, l, c, m, n, V0, V1, D0, D1, P0, P1, hcs, _, hl, hm, hmm, _, hall⟩
  · simp [Value.cells] at hcs
    obtain ⟨rfl, rfl, rfl⟩ := hcs
    exact ⟨by unfold maxLen; omega, [], rfl, fun p hp => by simp at hp, fun h => by simp at h⟩
  · simp [Value.cells] at hcs
    obtain ⟨rfl, rfl, rfl⟩ := hcs
    have hlm : len ≤ m := by rw [hmm]; split <;> omega
    have each : ∀ i, i < len → ∃ q : Pr, V0 i = .string q.1 ∧ V1 i = .string q.2 ∧ okP q := fun i hi => by
      obtain ⟨_, _, h0, h1⟩ := hall i (by omega)
      obtain ⟨s0, e0, _, k0⟩ := DataW.trod_string Yba.underlying9 h0
      obtain ⟨s1, e1, _, k1⟩ := DataW.trod_string Yba.underlying9 h1
      exact ⟨(s0, s1), by simpa using e0, by simpa using e1, k0, k1⟩
    obtain ⟨q, hq⟩ := choose_lt each
    refine ⟨by omega, (List.range len).map q, by simp, fun p hp => ?_, fun h0 => ?_⟩
    · simp at hp
      obtain ⟨i, hi, rfl⟩ := hp
      exact (hq i hi).2.2
    · simp at h0
      obtain ⟨b, off, spot⟩ := x
      have hspot : spot = none := by simpa [Addr.add] using World.cell?_spot (hall 0 (by omega)).1
      subst hspot
      refine ⟨b, off, rfl, World.block_lt_of_cell? _ _ (hall 0 (by omega)).1, fun i hi => ?_⟩
      simp at hi
      obtain ⟨c0, c1, _⟩ := hall i (by omega)
      rw [add_plain, (hq i hi).1] at c0
      rw [add_plain, (hq i hi).2.1] at c1
      simp only [List.getElem_map, List.getElem_range]
      exact ⟨c0, by rw [Nat.add_assoc]; exact c1⟩

end Go.Proofs.Ybulkbrvc
