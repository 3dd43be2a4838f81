/-
  'Rows.LawS3424CGiveSaid', proved.
-/
import Derived.Test.YbulkbrwsOpen
import Derived.Test.YbulkbrwsGiveLaw
namespace Go.Proofs.Ybulkbrws
open Go.ChangeShapes Go.WideShapes Go.ChangeAt Go.RowKit
open Go.Deep

set_option maxRecDepth 100000 in
theorem give_lifted (os : Os) (started : os.Started) (H : Type) (enc : TypeId × Value → H) :
    ReturnsInHanded {} Yba.checked os 4 .any (Rows.lawS3424CGiveSpec.pre6 enc Yba.prog Yba.f4 Rows.lawS3424CGiveRow.domain false) (Rows.lawS3424CGiveSpec.post enc Yba.prog Yba.f4 false true false false) := by
  refine returnsInHanded_of_change (C := Yba.checked) Yba.own started (by kernel_rfl) Yba.func4
    (ChangeSpec.witness6 (enc := enc) (C := Yba.checked) false ⟨#[], #[.agg #[.int .u8 0, .int .u8 0, .int .u8 0, .slice none 0 0, .slice none 0 0, .string ⟨#[]⟩]], []⟩ 8 (by kernel_rfl) (by kernel_rfl) (by kernel_rfl) (by kernel_rfl)) ?_
  intro W base args ds gs before hval0 hW hcnd _
  have hval : ∀ (j : Nat) t v, Yba.f4.params[j]? = some t → args[j]? = some v → Value.okWide Yba.prog W .any base t v := hval0
  have hW' := hW
  obtain ⟨p, q, hA0, hV, rfl, hfz, hnd⟩ := hW
  have hA : DataW.TrodAll enc Yba.prog W 0 (fun _ => true) true Yba.f4.params.toList args.toList ds p := hA0
  rw [Yba.params4] at hA hval
  obtain ⟨v0, vs0, d0, ds0, p0, q0, hargs, rfl, rfl, h0, r0⟩ := trodAll_cons hA
  obtain ⟨rfl, rfl, rfl⟩ := trodAll_nil r0
  obtain rfl : args = #[v0] := by cases args; simp_all
  obtain ⟨rfl, rfl⟩ := trodVars_none hV
  have k1 := h0
  have lt1 : ∀ x ∈ p0, x.block < W.heap.size := by obtain ⟨m, hm⟩ := k1; exact DataW.trod_lt m _ _ _ hm
  obtain ⟨a, b, s, a0, c0, S0, a1, c1, S1, e, rfl, m0, s0, m1, s1⟩ := open_in (hval 0 24 v0 rfl rfl) h0
  clear hA0 hval0
  have fin : Calls Yba.prog 4 #[.agg (IN a b s a0 S0.length c0 a1 S1.length c1 e)] W fun e w' => e = .returned (.bool true) ∧ Below W.heap.size W w' := by
    by_cases hl0 : S0.length ≤ 1024
    · by_cases hl1 : S1.length ≤ 1024
      · exact givelaw_any a b s a0 c0 S0 a1 c1 S1 e W s0 s1 hl0 hl1
      · exact give_long1 a b s a0 _ c0 a1 _ c1 e W hl0 (by omega) m1
    · exact give_long0 a b s a0 _ c0 a1 _ c1 e W (by omega) m0
  refine fin.mono fun e W' ⟨he, bel⟩ => ?_
  subst he
  exact ⟨_, rfl, _, _, _, [], _, [], hW', trodAll_mk1 (shut_bool Yba.underlying4 _), trodAll_cons_mk (Below.trod Yba.laidOut (by kernel_rfl) (of_decide_eq_true (by kernel_rfl)) k1 bel lt1) trodAll_mk0, rfl, bel.frame _, fun h => by cases h⟩

theorem give_over : Rows.lawS3424CGiveRow.holds Yba.pinned (OpenSpec.ofChange Rows.lawS3424CGiveSpec) :=
  OpenClaim.holds_of_wide 4 Yba.f4 rfl rfl rfl rfl rfl rfl rfl ⟨rfl, rfl, rfl, rfl, rfl⟩ rfl rfl rfl rfl rfl (by kernel_rfl) Yba.func4 (by kernel_rfl)
    (of_decide_eq_true (by kernel_rfl)) (by unfold Func.isWrapper; first | (rw [if_pos (by decide +kernel)]; kernel_rfl) | (rw [if_neg (by decide +kernel)]; exact ⟨rfl, rfl⟩))
    (fun os started H enc _ => give_lifted os started H enc)

theorem give_proved : Rows.LawS3424CGiveSaid := give_over
#print axioms give_proved
end Go.Proofs.Ybulkbrws
