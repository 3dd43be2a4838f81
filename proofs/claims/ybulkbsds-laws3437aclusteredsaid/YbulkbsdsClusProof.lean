/-
  'Rows.LawS3437AClusteredSaid', proved.
-/
import Derived.Test.YbulkbsdsClus
import Derived.OpenShut
import Derived.ChangeOld
import Derived.Deep.Matrix
namespace Go.Proofs.Ybulkbsds
open Go.ChangeShapes Go.WideShapes Go.ChangeAt Go.RowKit
open Go.Deep

theorem Yba.ownC : ownKnob Yba.prog.godebug = none := by kernel_rfl
theorem Yba.laidOutC : laidOutB Yba.prog = true := by kernel_rfl
theorem Yba.cells49 : Yba.prog.cellsOf 49 = 1 := by kernel_rfl
theorem Yba.cells5 : Yba.prog.cellsOf 5 = 1 := by kernel_rfl

set_option maxHeartbeats 1000000 in
theorem clus_far (ao : Option Addr) (len cap : Nat) (kk fr n s : Int) (hm : len ≤ maxLen) (h : 1024 < len ∨ fr < -1024 ∨ 1024 < fr) (w : World) :
    Calls Yba.prog 4 #[.slice ao len cap, .int .u16 kk, .int .i64 fr, .int .u8 n, .int .u8 s] w fun e w' => e = .returned (.bool true) ∧ Below w.heap.size w w' := by
  have hm' : (len : Int) ≤ 9223372036854775807 := by unfold maxLen at hm; omega
  by_cases h0 : 1024 < len
  · have h0' : (1024 : Int) < (len : Int) := by omega
    go_enter Yba.func4, Yba.ntmps4
    go_wp2
    go_ret
    exact ⟨rfl, Below.refl _ _⟩
  · have h0' : ¬ (1024 : Int) < (len : Int) := by omega
    by_cases h1 : fr < -1024
    · go_enter Yba.func4, Yba.ntmps4
      go_wp2
      go_ret
      exact ⟨rfl, Below.refl _ _⟩
    · have h2 : 1024 < fr := by omega
      go_enter Yba.func4, Yba.ntmps4
      go_wp2
      go_ret
      exact ⟨rfl, Below.refl _ _⟩

theorem wf_u8 {n : Int} (h : (Lit.int .u8 n).wf = true) : 0 ≤ n ∧ n ≤ 255 := by
  simp [Lit.wf] at h
  have e1 : IntKind.u8.min = 0 := by decide
  have e2 : IntKind.u8.max = 255 := by decide
  omega
theorem wf_u16 {n : Int} (h : (Lit.int .u16 n).wf = true) : 0 ≤ n ∧ n ≤ 65535 := by
  simp [Lit.wf] at h
  have e1 : IntKind.u16.min = 0 := by decide
  have e2 : IntKind.u16.max = 65535 := by decide
  omega

theorem open_deltas {H : Type} {enc : TypeId × Value → H} {W : World} {held : Bool} {a : Option Addr} {len cap : Nat} {d : DataW H} {p : List MemPlace}
    (h : DataW.Trod enc Yba.prog W 0 (fun _ => true) held 47 (.slice a len cap) d p) : len ≤ maxLen ∧ ∃ A Ln C z, Deltas W a len A Ln C z := by
  obtain ⟨fuel, hf⟩ := h
  rcases open_int_rows Yba.underlying47 Yba.underlying49 Yba.underlying5 Yba.cells49 Yba.cells5 hf with ⟨hcs, _⟩ | ⟨x, l, c, A, L, C, Z, hcs, _, hl, hm, _, hall⟩
  · simp [Value.cells] at hcs
    obtain ⟨rfl, rfl, rfl⟩ := hcs
    exact ⟨by unfold maxLen; omega, fun _ => Option.none, fun _ => 0, fun _ => 0, fun _ _ => 0, fun r hr => by omega⟩
  · simp [Value.cells] at hcs
    obtain ⟨rfl, rfl, rfl⟩ := hcs
    refine ⟨by omega, A, L, C, fun r c => (Z r).getD c 0, fun r hr => ?_⟩
    obtain ⟨h1, h2, h3, h4, h5, h6, h7⟩ := hall r (by omega)
    refine ⟨x, rfl, h1, fun c hc => ?_⟩
    cases hA : A r with
    | none => have := h6 hA; omega
    | some a' =>
      refine ⟨a', rfl, (h7 a' hA).2 c (by omega), ?_⟩
      have hcl : c < (Z r).length := by omega
      have := wf_u8 (h5 (Z r)[c] (List.getElem_mem hcl))
      simpa [List.getD, List.getElem?_eq_getElem hcl] using this

set_option maxRecDepth 100000 in
theorem clus_lifted (os : Os) (started : os.Started) (H : Type) (enc : TypeId × Value → H) :
    ReturnsInHanded {} Yba.checked os 4 .any (Rows.lawS3437AClusteredSpec.pre6 enc Yba.prog Yba.f4 Rows.lawS3437AClusteredRow.domain false) (Rows.lawS3437AClusteredSpec.post enc Yba.prog Yba.f4 false true false false) := by
  refine returnsInHanded_of_change (C := Yba.checked) Yba.ownC started (by kernel_rfl) Yba.func4
    (ChangeSpec.witness6 (enc := enc) (C := Yba.checked) false ⟨#[], #[.slice none 0 0, .int .u16 0, .int .i64 0, .int .u8 0, .int .u8 0], []⟩ 8 (by kernel_rfl) (by kernel_rfl) (by kernel_rfl) (by kernel_rfl)) ?_
  intro W base args ds gs before hval0 hW hcnd _
  have hval : ∀ (j : Nat) t v, Yba.f4.params[j]? = some t → args[j]? = some v → Value.okWide Yba.prog W .any base t v := hval0
  have hW' := hW
  obtain ⟨p, q, hA0, hV, rfl, hfz, hnd⟩ := hW
  have hA : DataW.TrodAll enc Yba.prog W 0 (fun _ => true) true Yba.f4.params.toList args.toList ds p := hA0
  rw [Yba.params4] at hA hval
  obtain ⟨v0, vs0, d0, ds0, p0, q0, hargs, rfl, rfl, h0, r0⟩ := trodAll_cons hA
  obtain ⟨v1, vs1, d1, ds1, p1, q1, rfl, rfl, rfl, h1, r1⟩ := trodAll_cons r0
  obtain ⟨v2, vs2, d2, ds2, p2, q2, rfl, rfl, rfl, h2, r2⟩ := trodAll_cons r1
  obtain ⟨v3, vs3, d3, ds3, p3, q3, rfl, rfl, rfl, h3, r3⟩ := trodAll_cons r2
  obtain ⟨v4, vs4, d4, ds4, p4, q4, rfl, rfl, rfl, h4, r4⟩ := trodAll_cons r3
  obtain ⟨rfl, rfl, rfl⟩ := trodAll_nil r4
  obtain rfl : args = #[v0, v1, v2, v3, v4] := by cases args; simp_all
  obtain ⟨rfl, rfl⟩ := trodVars_none hV
  obtain ⟨a0, len0, cap0, rfl⟩ := okWide_slice Yba.underlying47 (hval 0 47 v0 rfl rfl)
  have k0 := h0
  have lt0 : ∀ x ∈ p0, x.block < W.heap.size := by obtain ⟨m, hm⟩ := k0; exact DataW.trod_lt m _ _ _ hm
  obtain ⟨hm0, A, Ln, C, z, hD⟩ := open_deltas h0
  obtain ⟨a1, rfl, rfl, rfl, w1⟩ := open_int Yba.underlying48 (hval 1 48 v1 rfl rfl) h1
  obtain ⟨a2, rfl, rfl, rfl, w2⟩ := open_int Yba.underlying3 (hval 2 3 v2 rfl rfl) h2
  obtain ⟨a3, rfl, rfl, rfl, w3⟩ := open_int Yba.underlying5 (hval 3 5 v3 rfl rfl) h3
  obtain ⟨a4, rfl, rfl, rfl, w4⟩ := open_int Yba.underlying5 (hval 4 5 v4 rfl rfl) h4
  clear hA0 hval0
  have fin : Calls Yba.prog 4 #[.slice a0 len0 cap0, .int .u16 a1, .int .i64 a2, .int .u8 a3, .int .u8 a4] W fun e w' => e = .returned (.bool true) ∧ Below W.heap.size W w' := by
    have b1 := wf_u16 w1
    have b3 := wf_u8 w3
    have b4 := wf_u8 w4
    by_cases hr : 1024 < len0 ∨ a2 < -1024 ∨ 1024 < a2
    · exact clus_far a0 len0 cap0 a1 a2 a3 a4 hm0 hr W
    · obtain ⟨m1, rfl⟩ : ∃ m : Nat, a1 = (m : Int) := ⟨a1.toNat, by omega⟩
      obtain ⟨m3, rfl⟩ : ∃ m : Nat, a3 = (m : Int) := ⟨a3.toNat, by omega⟩
      by_cases hz : len0 = 0
      · exact clus_zero a0 len0 cap0 A Ln C z m1 m3 a2 a4 hz (by omega) (by omega) (by omega) (by omega) b4.1 b4.2 W hD
      · exact clus_pos a0 len0 cap0 A Ln C z m1 m3 a2 a4 (by omega) (by omega) (by omega) (by omega) (by omega) (by omega) b4.1 b4.2 W hD
  refine fin.mono fun e W' ⟨he, bel⟩ => ?_
  subst he
  exact ⟨_, rfl, _, _, _, [], _, [], hW', trodAll_mk1 (shut_bool Yba.underlying4 _), (trodAll_cons_mk (Below.trod Yba.laidOutC (by kernel_rfl) (of_decide_eq_true (by kernel_rfl)) k0 bel lt0) (trodAll_cons_mk (shut_int Yba.underlying48 w1) (trodAll_cons_mk (shut_int Yba.underlying3 w2) (trodAll_cons_mk (shut_int Yba.underlying5 w3) (trodAll_cons_mk (shut_int Yba.underlying5 w4) trodAll_mk0))))), rfl, bel.frame _, fun h => by cases h⟩

theorem clus_over : Rows.lawS3437AClusteredRow.holds Yba.pinned (OpenSpec.ofChange Rows.lawS3437AClusteredSpec) :=
  OpenClaim.holds_of_wide 4 Yba.f4 rfl rfl rfl rfl rfl rfl rfl ⟨rfl, rfl, rfl, rfl, rfl⟩ rfl rfl rfl rfl rfl (by kernel_rfl) Yba.func4 (by kernel_rfl)
    (of_decide_eq_true (by kernel_rfl)) (by unfold Func.isWrapper; first | (rw [if_pos (by decide +kernel)]; kernel_rfl) | (rw [if_neg (by decide +kernel)]; exact ⟨rfl, rfl⟩))
    (fun os started H enc _ => clus_lifted os started H enc)

theorem clustered_proved : Rows.LawS3437AClusteredSaid := clus_over
#print axioms clustered_proved
end Go.Proofs.Ybulkbsds
