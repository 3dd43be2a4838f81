/-
  The walks of zzs3424ckey and (*channel).slot.
-/
import Derived.Test.YbulkbrwsKeys
namespace Go.Proofs.Ybulkbrws
open Go.ChangeShapes Go.WideShapes Go.ChangeAt Go.RowKit

theorem KC_eq (b : Int) : (Z32.setIfInBounds 0 (.int .u8 b)).setIfInBounds 31 (.int .u8 (bits .xor .u8 b 90)) = KC b := rfl

set_option maxHeartbeats 1000000 in
/-- zzs3424ckey. -/
theorem key_any (b : Int) (w : World) :
    Calls Yba.prog 10 #[.int .u8 b] w fun e w' => e = .returned (.agg (KC b)) ∧ Below w.heap.size w w' := by
  have z0 : Z32[0]? = some (.int .u8 0) := rfl
  have z31 : Z32[31]? = some (.int .u8 0) := rfl
  have zs := Z32_size
  go_enter Yba.func10, Yba.ntmps10
  go_wp2_with (first
    | (refine wpList_alloc_run rfl 27 rfl (alloc27 _) ?_)
    | (refine wpList_load_row rfl 27 (.tmp 3) rfl (w.heap.size + 1) rfl 27 (KC b) (0, 0) _ (by rw [← KC_eq]; exact heap_alloc2_new w _ _) Yba.underlying27 rfl (by rw [KC_size]; exact info27) ?_)
    | (refine wpList_store_block rfl 27 (.tmp 2) (.tmp 9) rfl w.heap.size Z32 (KC b) 27 rfl rfl (by exact heap_alloc2_old w _ _) rfl (by rw [KC_size]; exact info27) (KC_one b) ?_))
  intro w1 hb1 hg1
  go_wp2
  exact bodyPost_ret (v := .agg (KC b)) (results_cell_row rfl _ _ w.heap.size 27 (KC b) (0, 0) _ rfl hb1 Yba.underlying27 rfl (by rw [KC_size]; exact info27)) rfl ⟨rfl, (((Below.refl _ _).alloc (Nat.le_refl _) _).alloc (by simp) _).grown hg1 (by simp <;> omega) (fun k hk => by cases hk; exact Nat.le_refl _)⟩

#print axioms key_any
end Go.Proofs.Ybulkbrws
