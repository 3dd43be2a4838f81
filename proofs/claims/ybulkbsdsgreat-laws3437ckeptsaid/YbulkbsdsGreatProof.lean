/-
  'Rows.LawS3437CKeptSaid', proved.
-/
import Derived.Test.YbulkbsdsGreatLaw
import Derived.OpenShut
import Derived.ChangeOld
namespace Go.Proofs.YbulkbsdsGreat
open Go.ChangeShapes Go.WideShapes Go.ChangeAt Go.RowKit

theorem Ybaz.own : ownKnob Ybaz.prog.godebug = none := by kernel_rfl

theorem bounds_u16 {n : Int} (h : (Lit.int .u16 n).wf = true) : 0 ≤ n ∧ n ≤ 65535 := by
  simp [Lit.wf] at h
  have e1 : IntKind.u16.min = 0 := by decide
  have e2 : IntKind.u16.max = 65535 := by decide
  omega
theorem bounds_i32 {n : Int} (h : (Lit.int .i32 n).wf = true) : -2147483648 ≤ n ∧ n ≤ 2147483647 := by
  simp [Lit.wf] at h
  have e1 : IntKind.i32.min = -2147483648 := by decide
  have e2 : IntKind.i32.max = 2147483647 := by decide
  omega

set_option maxRecDepth 100000 in
theorem kept_lifted (os : Os) (started : os.Started) (H : Type) (enc : TypeId × Value → H) :
    ReturnsInHanded {} Ybaz.checked os 3 .any (Rows.lawS3437CKeptSpec.pre6 enc Ybaz.prog Ybaz.f3 Rows.lawS3437CKeptRow.domain false) (Rows.lawS3437CKeptSpec.post enc Ybaz.prog Ybaz.f3 false true false false) := by
  refine returnsInHanded_of_change (C := Ybaz.checked) Ybaz.own started (by kernel_rfl) Ybaz.func3
    (ChangeSpec.witness6 (enc := enc) (C := Ybaz.checked) false ⟨#[], #[.int .u16 0, .int .i32 0, .int .u16 0, .int .i32 0], []⟩ 8 (by kernel_rfl) (by kernel_rfl) (by kernel_rfl) (by kernel_rfl)) ?_
  intro W base args ds gs before hval0 hW hcnd _
  have hval : ∀ (j : Nat) t v, Ybaz.f3.params[j]? = some t → args[j]? = some v → Value.okWide Ybaz.prog W .any base t v := hval0
  have hW' := hW
  obtain ⟨p, q, hA0, hV, rfl, hfz, hnd⟩ := hW
  have hA : DataW.TrodAll enc Ybaz.prog W 0 (fun _ => true) true Ybaz.f3.params.toList args.toList ds p := hA0
  rw [Ybaz.params3] at hA hval
  obtain ⟨v0, vs0, d0, ds0, p0, q0, hargs, rfl, rfl, h0, r0⟩ := trodAll_cons hA
  obtain ⟨v1, vs1, d1, ds1, p1, q1, rfl, rfl, rfl, h1, r1⟩ := trodAll_cons r0
  obtain ⟨v2, vs2, d2, ds2, p2, q2, rfl, rfl, rfl, h2, r2⟩ := trodAll_cons r1
  obtain ⟨v3, vs3, d3, ds3, p3, q3, rfl, rfl, rfl, h3, r3⟩ := trodAll_cons r2
  obtain ⟨rfl, rfl, rfl⟩ := trodAll_nil r3
  obtain rfl : args = #[v0, v1, v2, v3] := by cases args; simp_all
  obtain ⟨rfl, rfl⟩ := trodVars_none hV
  obtain ⟨a0, rfl, rfl, rfl, w0⟩ := open_int Ybaz.underlying22 (hval 0 22 v0 rfl rfl) h0
  obtain ⟨a1, rfl, rfl, rfl, w1⟩ := open_int Ybaz.underlying21 (hval 1 21 v1 rfl rfl) h1
  obtain ⟨a2, rfl, rfl, rfl, w2⟩ := open_int Ybaz.underlying22 (hval 2 22 v2 rfl rfl) h2
  obtain ⟨a3, rfl, rfl, rfl, w3⟩ := open_int Ybaz.underlying21 (hval 3 21 v3 rfl rfl) h3
  clear hA0 hval0
  simp only [List.append_nil] at hW'
  have fin : Calls Ybaz.prog 3 #[.int .u16 a0, .int .i32 a1, .int .u16 a2, .int .i32 a3] W fun e w' => e = .returned (.bool true) ∧ Below W.heap.size W w' := by
    have b0 := bounds_u16 w0
    have b1 := bounds_i32 w1
    have b2 := bounds_u16 w2
    have b3 := bounds_i32 w3
    obtain ⟨i, rfl⟩ : ∃ i : Nat, a0 = (i : Int) := ⟨a0.toNat, by omega⟩
    obtain ⟨j, rfl⟩ : ∃ j : Nat, a2 = (j : Int) := ⟨a2.toNat, by omega⟩
    by_cases c1 : a1 = -1 <;> by_cases c2 : a3 = -1 <;> by_cases c3 : i % 4096 = j % 4096
    · exact law_7 i j a1 a3 b1.1 b1.2 b3.1 b3.2 (by omega) (by omega) c1 c2 c3 W
    · exact law_3 i j a1 a3 b1.1 b1.2 b3.1 b3.2 (by omega) (by omega) c1 c2 c3 W
    · exact law_5 i j a1 a3 b1.1 b1.2 b3.1 b3.2 (by omega) (by omega) c1 c2 c3 W
    · exact law_1 i j a1 a3 b1.1 b1.2 b3.1 b3.2 (by omega) (by omega) c1 c2 c3 W
    · exact law_6 i j a1 a3 b1.1 b1.2 b3.1 b3.2 (by omega) (by omega) c1 c2 c3 W
    · exact law_2 i j a1 a3 b1.1 b1.2 b3.1 b3.2 (by omega) (by omega) c1 c2 c3 W
    · exact law_4 i j a1 a3 b1.1 b1.2 b3.1 b3.2 (by omega) (by omega) c1 c2 c3 W
    · exact law_0 i j a1 a3 b1.1 b1.2 b3.1 b3.2 (by omega) (by omega) c1 c2 c3 W
  refine fin.mono fun e W' ⟨he, bel⟩ => ?_
  subst he
  exact ⟨_, rfl, _, _, _, [], _, [], hW', trodAll_mk1 (shut_bool Ybaz.underlying4 _), (trodAll_cons_mk (shut_int Ybaz.underlying22 w0) (trodAll_cons_mk (shut_int Ybaz.underlying21 w1) (trodAll_cons_mk (shut_int Ybaz.underlying22 w2) (trodAll_cons_mk (shut_int Ybaz.underlying21 w3) trodAll_mk0)))), rfl, bel.frame _, fun h => by cases h⟩

theorem kept_over : Rows.lawS3437CKeptRow.holds Ybaz.pinned (OpenSpec.ofChange Rows.lawS3437CKeptSpec) :=
  OpenClaim.holds_of_wide 3 Ybaz.f3 rfl rfl rfl rfl rfl rfl rfl ⟨rfl, rfl, rfl, rfl, rfl⟩ rfl rfl rfl rfl rfl (by kernel_rfl) Ybaz.func3 (by kernel_rfl)
    (of_decide_eq_true (by kernel_rfl)) (by unfold Func.isWrapper; first | (rw [if_pos (by decide +kernel)]; kernel_rfl) | (rw [if_neg (by decide +kernel)]; exact ⟨rfl, rfl⟩))
    (fun os started H enc _ => kept_lifted os started H enc)

theorem kept_proved : Rows.LawS3437CKeptSaid := kept_over
#print axioms kept_proved
end Go.Proofs.YbulkbsdsGreat
