/-
  The walks of netip's small functions.
-/
import Derived.Test.YbulkbrvqDoorLow
namespace Go.Proofs.YbulkbrvqDoor
open Go.ChangeShapes Go.WideShapes Go.ChangeAt Go.RowKit

/-- netip's three variables as they lie. -/
structure Gl (w : World) (a4 a6 : Addr) : Prop where
  z4 : w.cell? ⟨1, 0, none⟩ = some (.pointer (some a4))
  z6 : w.cell? ⟨2, 0, none⟩ = some (.pointer (some a6))
  z0 : w.cell? ⟨3, 0, none⟩ = some (.pointer none)
  lt : 4 ≤ w.heap.size
  ne : a4 ≠ a6
  b4 : ∃ c t, w.heap[a4.block]? = some (.cells c t (0, 0))
  b6 : ∃ c t, w.heap[a6.block]? = some (.cells c t (0, 0))

theorem Gl.below {w w' : World} {a4 a6 : Addr} (h : Gl w a4 a6) (hb : Below w.heap.size w w') : Gl w' a4 a6 := by
  have := h.lt
  exact ⟨(hb.cell (p := ⟨1, 0, none⟩) (by show 1 < _; omega)).trans h.z4, (hb.cell (p := ⟨2, 0, none⟩) (by show 2 < _; omega)).trans h.z6, (hb.cell (p := ⟨3, 0, none⟩) (by show 3 < _; omega)).trans h.z0, Nat.le_trans h.lt hb.size, h.ne,
    let ⟨c, t, e⟩ := h.b4; ⟨c, t, (hb.block _ (Array.getElem?_eq_some_iff.1 e).1).trans e⟩, let ⟨c, t, e⟩ := h.b6; ⟨c, t, (hb.block _ (Array.getElem?_eq_some_iff.1 e).1).trans e⟩⟩

theorem Gl.al {w : World} {a4 a6 : Addr} (h : Gl w a4 a6) (X : Obj) : Gl (w.alloc X) a4 a6 := h.below ((Below.refl _ _).alloc (Nat.le_refl _) X)

/-- AddrPortFrom. -/
theorem portfrom_any (hi lo : Int) (z : Option Addr) (p : Int) (w : World) :
    Calls Ybad.prog 6 #[.agg #[.int .u64 hi, .int .u64 lo, .pointer z], .int .u16 p] w fun e w' => e = .returned (.agg #[.int .u64 hi, .int .u64 lo, .pointer z, .int .u16 p]) ∧ Below w.heap.size w w' := by
  go_enter Ybad.func6, Ybad.ntmps6
  go_wp2
  exact bodyPost_ret (v := .agg #[.int .u64 hi, .int .u64 lo, .pointer z, .int .u16 p]) (by simp [results, Ybad.results6, go_sem]) rfl ⟨rfl, ((Below.refl _ _).alloc (Nat.le_refl _) _).alloc (by simp) _⟩

/-- (AddrPort).Addr. -/
theorem addr_any (hi lo : Int) (z : Option Addr) (p : Int) (w : World) :
    Calls Ybad.prog 10 #[.agg #[.int .u64 hi, .int .u64 lo, .pointer z, .int .u16 p]] w fun e w' => e = .returned (.agg #[.int .u64 hi, .int .u64 lo, .pointer z]) ∧ Below w.heap.size w w' := by
  go_enter Ybad.func10, Ybad.ntmps10
  go_wp2
  exact bodyPost_ret (v := .agg #[.int .u64 hi, .int .u64 lo, .pointer z]) (by simp [results, Ybad.results10, go_sem]) rfl ⟨rfl, ((Below.refl _ _).alloc (Nat.le_refl _) _).alloc (by simp) _⟩

/-- (AddrPort).Port. -/
theorem port_any (hi lo : Int) (z : Option Addr) (p : Int) (w : World) :
    Calls Ybad.prog 13 #[.agg #[.int .u64 hi, .int .u64 lo, .pointer z, .int .u16 p]] w fun e w' => e = .returned (.int .u16 p) ∧ w' = w.alloc (.cells #[.int .u64 hi, .int .u64 lo, .pointer z, .int .u16 p] 37) := by
  go_enter Ybad.func13, Ybad.ntmps13
  go_wp2
  go_ret
  exact ⟨rfl, rfl⟩

theorem ret_av {hi hi' lo lo' : Int} {z : Option Addr} (h1 : hi = hi') (h2 : lo = lo') : Ending.returned (.agg #[.int .u64 hi, .int .u64 lo, .pointer z]) = .returned (.agg #[.int .u64 hi', .int .u64 lo', .pointer z]) := by rw [h1, h2]

/-- AddrFrom4. -/
theorem from4_any (b0 b1 b2 b3 : Int) (h0 : isB b0) (h1 : isB b1) (h2 : isB b2) (h3 : isB b3) (a4 a6 : Addr) (w : World) (hG : Gl w a4 a6) :
    Calls Ybad.prog 8 #[.agg #[.int .u8 b0, .int .u8 b1, .int .u8 b2, .int .u8 b3]] w fun e w' => e = .returned (.agg #[.int .u64 0, .int .u64 (be4 b0 b1 b2 b3), .pointer (some a4)]) ∧ Below w.heap.size w w' := by
  have z4 := fun X Y => ((hG.al X).al Y).z4
  have h0' := h0; have h1' := h1; have h2' := h2; have h3' := h3
  unfold isB at h0' h1' h2' h3'
  have HE := hide (be4_or h0 h1 h2 h3)
  go_enter Ybad.func8, Ybad.ntmps8
  clear hG
  go_wp2
  rw [unhide HE]
  exact bodyPost_ret (v := .agg #[.int .u64 0, .int .u64 (be4 b0 b1 b2 b3), .pointer (some a4)]) (by simp [results, Ybad.results8, go_sem]) rfl ⟨rfl, ((Below.refl _ _).alloc (Nat.le_refl _) _).alloc (by simp) _⟩

#print axioms from4_any
end Go.Proofs.YbulkbrvqDoor
