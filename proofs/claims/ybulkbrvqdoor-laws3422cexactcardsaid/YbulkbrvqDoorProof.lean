/-
  'Rows.LawS3422CExactSaid' and the tied card 'Rows.LawS3422CExactCardSaid', proved.
-/
import Derived.Test.YbulkbrvqDoorLaid
import Derived.Test.YbulkbrvqDoorTie
import Derived.Test.YbulkbrvqDoorCards
import Derived.SevenTiedAt
import Derived.Deep.Slices
import Derived.ChangeOld
namespace Go.Proofs.YbulkbrvqDoor
open Go.ChangeShapes Go.WideShapes Go.ChangeAt Go.WideMaps Go.WideElems Go.RowKit

theorem own : ownKnob Ybad.prog.godebug = none := by kernel_rfl
theorem laidOut : laidOutB Ybad.prog = true := by kernel_rfl
theorem c5 : Ybad.prog.cellsOf 5 = 1 := by kernel_rfl
theorem c23 : Ybad.prog.cellsOf 23 = 16 := by kernel_rfl

/-- The array that came in, opened: sixteen bytes. -/
theorem open_arr {H : Type} {enc : TypeId × Value → H} {W : World} {base : Nat} {sp : Nat → Bool} {held : Bool} {v : Value} {d : DataW H} {p : List MemPlace}
    (hv : Value.okWide Ybad.prog W .any base 23 v) (h : DataW.Trod enc Ybad.prog W 0 sp held 23 v d p) :
    ∃ b : Nat → Int, v = .agg #[.int .u8 (b 0), .int .u8 (b 1), .int .u8 (b 2), .int .u8 (b 3), .int .u8 (b 4), .int .u8 (b 5), .int .u8 (b 6), .int .u8 (b 7), .int .u8 (b 8), .int .u8 (b 9), .int .u8 (b 10), .int .u8 (b 11), .int .u8 (b 12), .int .u8 (b 13), .int .u8 (b 14), .int .u8 (b 15)] ∧ ∀ i, i < 16 → isB (b i) := by
  simp only [Value.okWide, Ybad.underlying23] at hv
  obtain ⟨cs, rfl, hsz, _⟩ := hv
  rw [c23] at hsz
  obtain ⟨fuel, hf⟩ := h
  obtain ⟨xs, m, _, _, _, hxl, hel⟩ := DataW.trod_array Ybad.underlying23 hf
  have each : ∀ i, i < 16 → ∃ n : Int, cs[i]? = some (.int .u8 n) ∧ isB n := fun i hi => by
    have h1 := hel i hi
    rw [List.getElem?_eq_getElem (by omega)] at h1
    obtain ⟨n, e1, _, w1⟩ := DataW.trod_int Ybad.underlying5 h1
    refine ⟨n, ?_, by have := bounds_u8 w1; unfold isB; omega⟩
    rw [c5] at e1
    have h2 := congrArg (fun l => l[0]?) e1
    simp [Value.cells, List.getElem?_drop] at h2
    exact h2
  obtain ⟨b, hb⟩ := Deep.choose_lt each
  refine ⟨b, ?_, fun i hi => (hb i hi).2⟩
  congr 1
  apply Array.ext_getElem?
  intro i
  by_cases hi : i < 16
  · rw [(hb i hi).1]
    have : i = 0 ∨ i = 1 ∨ i = 2 ∨ i = 3 ∨ i = 4 ∨ i = 5 ∨ i = 6 ∨ i = 7 ∨ i = 8 ∨ i = 9 ∨ i = 10 ∨ i = 11 ∨ i = 12 ∨ i = 13 ∨ i = 14 ∨ i = 15 := by omega
    rcases this with rfl | rfl | rfl | rfl | rfl | rfl | rfl | rfl | rfl | rfl | rfl | rfl | rfl | rfl | rfl | rfl <;> rfl
  · rw [Array.getElem?_eq_none (by omega), Array.getElem?_eq_none (by simp; omega)]

/-- A slice of bytes that came in, opened. -/
theorem open_bytes {H : Type} {enc : TypeId × Value → H} {W : World} {a : Option Addr} {len cap : Nat} {d : DataW H} {p : List MemPlace}
    (h : DataW.Trod enc Ybad.prog W 0 (fun _ => true) true 22 (.slice a len cap) d p) : len ≤ maxLen ∧ ∃ xs : List Int, xs.length = len ∧ Row W a len cap xs := by
  obtain ⟨fuel, hf⟩ := h
  rcases open_ints Ybad.underlying22 Ybad.underlying5 c5 hf with ⟨hcs, _⟩ | ⟨x, l, c, zs, hcs, _, hl, hm, hz, _, hcell, hwz⟩
  · simp [Value.cells] at hcs
    obtain ⟨rfl, rfl, rfl⟩ := hcs
    exact ⟨by unfold maxLen; omega, [], rfl, rfl, fun _ => ⟨rfl, rfl⟩, fun x hx => by cases hx⟩
  · simp [Value.cells] at hcs
    obtain ⟨rfl, rfl, rfl⟩ := hcs
    simp only [if_true] at hz
    refine ⟨by omega, zs.take len, by simp; omega, by simp; omega, fun e => by (cases e), fun y hy j u hu => ?_⟩
    obtain rfl := Option.some.inj hy
    have hj : j < len := by have := (List.getElem?_eq_some_iff.1 hu).1; simp [bs] at this; omega
    rw [hcell j (by omega)]
    simp only [bs, List.getElem?_map, List.getElem?_take, if_pos hj] at hu
    simpa [show j < zs.length by omega, List.getD] using hu

set_option maxRecDepth 100000 in
theorem lifted (os : Os) (started : os.Started) (H : Type) (enc : TypeId × Value → H) :
    ReturnsInHanded {} Ybad.checked os 3 .any (fun w args => (Rows.lawS3422CExactSpec.pre enc Ybad.prog Ybad.f3 [] false w args ∧ laidMetH Ybad.prog laid3 w) ∧ sizedMet enc Ybad.prog Ybad.f3 (OpenSpec.ofChange Rows.lawS3422CExactSpec) false w args)
      (Rows.lawS3422CExactSpec.post enc Ybad.prog Ybad.f3 false true false false) := by
  refine returnsInHanded_of_change_and (C := Ybad.checked) (X := fun w _ => laidMetH Ybad.prog laid3 w) (fun _ _ _ hh h => h.of_heap hh) own started (by kernel_rfl) Ybad.func3
    (ChangeSpec.witness_shaped (enc := enc) (C := Ybad.checked) (os := os) (X := fun w _ => laidMetH Ybad.prog laid3 w) false ({ World.holding Ybad.prog os ⟨#[.cells #[.bool false, .string ⟨#[]⟩] 72, .cells #[.bool true, .string ⟨#[]⟩] 72], #[], []⟩ with
          heap := ((World.holding Ybad.prog os ⟨#[.cells #[.bool false, .string ⟨#[]⟩] 72, .cells #[.bool true, .string ⟨#[]⟩] 72], #[], []⟩).heap.modify 1 fun
            | .cells _ t frozen => .cells #[.pointer (some ⟨9, 0, none⟩)] t frozen
            | o => o).modify 2 fun
            | .cells _ t frozen => .cells #[.pointer (some ⟨10, 0, none⟩)] t frozen
            | o => o } : World) #[.slice none 0 0, .int .u8 0, .agg #[.int .u8 0, .int .u8 0, .int .u8 0, .int .u8 0, .int .u8 0, .int .u8 0, .int .u8 0, .int .u8 0, .int .u8 0, .int .u8 0, .int .u8 0, .int .u8 0, .int .u8 0, .int .u8 0, .int .u8 0, .int .u8 0], .int .u16 0] 8 rfl (World.shaped_of_RefB (by kernel_rfl) (by kernel_rfl)) (by kernel_rfl) (by kernel_rfl) (by kernel_rfl) (start_met os _)) ?_
  intro W base args ds gs before hval0 hW _ _ hL _
  have hval : ∀ (j : Nat) t v, Ybad.f3.params[j]? = some t → args[j]? = some v → Value.okWide Ybad.prog W .any base t v := hval0
  have hW' := hW
  obtain ⟨p, q, hA0, hV, rfl, hfz, hnd⟩ := hW
  have hA : DataW.TrodAll enc Ybad.prog W 0 (fun _ => true) true Ybad.f3.params.toList args.toList ds p := hA0
  rw [Ybad.params3] at hA hval
  obtain ⟨v0, vs0, d0, ds0, p0, q0, hargs, rfl, rfl, h0, r0⟩ := trodAll_cons hA
  obtain ⟨v1, vs1, d1, ds1, p1, q1, rfl, rfl, rfl, h1, r1⟩ := trodAll_cons r0
  obtain ⟨v2, vs2, d2, ds2, p2, q2, rfl, rfl, rfl, h2, r2⟩ := trodAll_cons r1
  obtain ⟨v3, vs3, d3, ds3, p3, q3, rfl, rfl, rfl, h3, r3⟩ := trodAll_cons r2
  obtain ⟨rfl, rfl, rfl⟩ := trodAll_nil r3
  obtain rfl : args = #[v0, v1, v2, v3] := by cases args; simp_all
  obtain ⟨rfl, rfl⟩ := trodVars_none hV
  obtain ⟨a0, len0, cap0, rfl⟩ := okWide_slice Ybad.underlying22 (hval 0 22 v0 rfl rfl)
  obtain ⟨k, rfl, rfl, rfl, wk⟩ := open_int Ybad.underlying5 (hval 1 5 v1 rfl rfl) h1
  obtain ⟨b, rfl, hB⟩ := open_arr (hval 2 23 v2 rfl rfl) h2
  obtain ⟨port, rfl, rfl, rfl, wp⟩ := open_int Ybad.underlying24 (hval 3 24 v3 rfl rfl) h3
  obtain ⟨a4, a6, hG⟩ := of_laid hL
  have lt0 : ∀ x ∈ p0, x.block < W.heap.size := by obtain ⟨m, hm⟩ := h0; exact DataW.trod_lt m _ _ _ hm
  have lt2 : ∀ x ∈ p2, x.block < W.heap.size := by obtain ⟨m, hm⟩ := h2; exact DataW.trod_lt m _ _ _ hm
  obtain ⟨hm, xs, rfl, hR⟩ := open_bytes h0
  have bk := bounds_u8 wk
  have bp := bounds_u16 wp
  clear hA0 hval0
  have fin : Calls Ybad.prog 3 #[.slice a0 xs.length cap0, .int .u8 k, .agg #[.int .u8 (b 0), .int .u8 (b 1), .int .u8 (b 2), .int .u8 (b 3), .int .u8 (b 4), .int .u8 (b 5), .int .u8 (b 6), .int .u8 (b 7), .int .u8 (b 8), .int .u8 (b 9), .int .u8 (b 10), .int .u8 (b 11), .int .u8 (b 12), .int .u8 (b 13), .int .u8 (b 14), .int .u8 (b 15)], .int .u16 port] W fun e w' => e = .returned (.bool true) ∧ Below W.heap.size W w' := by
    by_cases h : xs.length ≤ 4096
    · exact exact_short a0 cap0 xs k port (by omega) (by omega) (by omega) (by omega) (b 0) (b 1) (b 2) (b 3) (b 4) (b 5) (b 6) (b 7) (b 8) (b 9) (b 10) (b 11) (b 12) (b 13) (b 14) (b 15) (hB 0 (by omega)) (hB 1 (by omega)) (hB 2 (by omega)) (hB 3 (by omega)) (hB 4 (by omega)) (hB 5 (by omega)) (hB 6 (by omega)) (hB 7 (by omega)) (hB 8 (by omega)) (hB 9 (by omega)) (hB 10 (by omega)) (hB 11 (by omega)) (hB 12 (by omega)) (hB 13 (by omega)) (hB 14 (by omega)) (hB 15 (by omega)) a4 a6 W hG h hR
    · exact exact_long a0 xs.length cap0 k port (b 0) (b 1) (b 2) (b 3) (b 4) (b 5) (b 6) (b 7) (b 8) (b 9) (b 10) (b 11) (b 12) (b 13) (b 14) (b 15) W (by omega) hm
  refine fin.mono fun e W' ⟨he, bel⟩ => ?_
  subst he
  exact ⟨_, rfl, _, _, _, [], _, [], hW', trodAll_mk1 (shut_bool Ybad.underlying4 _), (trodAll_cons_mk (Below.trod laidOut (by kernel_rfl) (of_decide_eq_true (by kernel_rfl)) h0 bel lt0) (trodAll_cons_mk (shut_int Ybad.underlying5 wk) (trodAll_cons_mk (Below.trod laidOut (by kernel_rfl) (of_decide_eq_true (by kernel_rfl)) h2 bel lt2) (trodAll_cons_mk (shut_int Ybad.underlying24 wp) trodAll_mk0)))), rfl, bel.frame _, fun h => by cases h⟩

theorem row_holds : Rows.LawS3422CExactSaid :=
  OpenClaim.holds_of_wide 3 Ybad.f3 rfl rfl rfl rfl rfl rfl rfl ⟨rfl, rfl, rfl, rfl, rfl⟩ rfl rfl rfl rfl rfl (by kernel_rfl) Ybad.func3 (by kernel_rfl)
    (of_decide_eq_true (by kernel_rfl)) (by unfold Func.isWrapper; first | (rw [if_pos (by decide +kernel)]; kernel_rfl) | (rw [if_neg (by decide +kernel)]; exact ⟨rfl, rfl⟩))
    (fun os started H enc _ => lifted os started H enc)

/-- THE TIED CARD. -/
theorem card_proved : Rows.LawS3422CExactCardSaid :=
  Claim7.holds_tied_plain_at .later [] [.called, .called, .zero] true Rows.lawS3422CExactCard.stood.harness false
    row_holds (fun _ h => by cases h) (by kernel_rfl) (fun _ h => by cases h) lawS3422CExact_row_tie rfl ⟨rfl, rfl⟩ (by kernel_rfl) rfl
    (fun f fn hf hfn => by
      obtain rfl : f = 3 := Option.some.inj ((show Ybad.prog.funcNamed Rows.lawS3422CExactRow.func = some 3 by kernel_rfl).symm.trans hf) |>.symm
      obtain rfl : fn = Ybad.f3 := (Option.some.inj (Ybad.func3.symm.trans hfn)).symm
      exact ⟨by kernel_rfl, fun j t ht => by
        rw [Ybad.params3] at ht
        have hm : t ∈ [22, 5, 23, 24] := by simpa using Array.mem_of_getElem? ht
        have hall : ([22, 5, 23, 24].all fun u => !Ybad.prog.wantsStandIn u) = true := by kernel_rfl
        exact (show Ybad.prog.wantsStandIn t = false by simpa using List.all_eq_true.1 hall t hm)⟩)
    (by kernel_rfl)
#print axioms row_holds
#print axioms card_proved
end Go.Proofs.YbulkbrvqDoor
