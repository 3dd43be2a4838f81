/-
  The walk of netip.AddrFrom16.
-/
import Derived.Test.YbulkbrvqDoorNet
namespace Go.Proofs.YbulkbrvqDoor
open Go.ChangeShapes Go.WideShapes Go.ChangeAt Go.RowKit

set_option maxHeartbeats 4000000 in
/-- AddrFrom16. -/
theorem from16_any (b0 b1 b2 b3 b4 b5 b6 b7 b8 b9 b10 b11 b12 b13 b14 b15 : Int) (h0 : isB b0) (h1 : isB b1) (h2 : isB b2) (h3 : isB b3) (h4 : isB b4) (h5 : isB b5) (h6 : isB b6) (h7 : isB b7) (h8 : isB b8) (h9 : isB b9) (h10 : isB b10) (h11 : isB b11) (h12 : isB b12) (h13 : isB b13) (h14 : isB b14) (h15 : isB b15) (a4 a6 : Addr) (w : World) (hG : Gl w a4 a6) :
    Calls Ybad.prog 9 #[.agg #[.int .u8 b0, .int .u8 b1, .int .u8 b2, .int .u8 b3, .int .u8 b4, .int .u8 b5, .int .u8 b6, .int .u8 b7, .int .u8 b8, .int .u8 b9, .int .u8 b10, .int .u8 b11, .int .u8 b12, .int .u8 b13, .int .u8 b14, .int .u8 b15]] w fun e w' => e = .returned (.agg #[.int .u64 (be8 b0 b1 b2 b3 b4 b5 b6 b7), .int .u64 (be8 b8 b9 b10 b11 b12 b13 b14 b15), .pointer (some a6)]) ∧ Below w.heap.size w w' := by
  have z6 := fun X Y => ((hG.al X).al Y).z6
  clear hG
  go_enter Ybad.func9, Ybad.ntmps9
  go_wp2
  go_region_with (first
    | (go_at_call_of 14 (Value.slice (some ⟨w.heap.size, 0, none⟩) 8 16); refine (beuint64_any w.heap.size 0 8 16 b0 b1 b2 b3 b4 b5 b6 b7 _ (by omega) h0 h1 h2 h3 h4 h5 h6 h7 (by simp) (by simp) (by simp) (by simp) (by simp) (by simp) (by simp) (by simp)).mono ?_; rintro e w' ⟨rfl, nq, rfl⟩)
    | (go_at_call_of 14 (Value.slice (some ⟨w.heap.size, 8, none⟩) 8 8); refine (beuint64_any w.heap.size 8 8 8 b8 b9 b10 b11 b12 b13 b14 b15 _ (by omega) h8 h9 h10 h11 h12 h13 h14 h15 (by simp) (by simp) (by simp) (by simp) (by simp) (by simp) (by simp) (by simp)).mono ?_; rintro e w' ⟨rfl, nq, rfl⟩))
  all_goals go_wp2
  all_goals exact bodyPost_ret (v := .agg #[.int .u64 (be8 b0 b1 b2 b3 b4 b5 b6 b7), .int .u64 (be8 b8 b9 b10 b11 b12 b13 b14 b15), .pointer (some a6)]) (by simp [results, Ybad.results9, go_sem]) rfl ⟨rfl, (((below_drewN (((Below.refl _ _).alloc (Nat.le_refl _) _).alloc (by simp) _) _).setCell (by simp) _).setCell (by simp) _).setCell (by simp) _⟩

#print axioms from16_any

end Go.Proofs.YbulkbrvqDoor
