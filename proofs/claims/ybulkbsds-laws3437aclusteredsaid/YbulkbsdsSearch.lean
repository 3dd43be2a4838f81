/-
  The walk of slices.BinarySearch at a sorted []int32.
-/
import Derived.Test.YbulkbsdsEq
namespace Go.Proofs.Ybulkbsds
open Go.RowKit

def IRow32 (w : World) (ao : Option Addr) (xs : List Int) : Prop := 0 < xs.length → ∃ b, ao = some ⟨b, 0, none⟩ ∧ ∀ i (h : i < xs.length), w.cell? ⟨b, i, none⟩ = some (.int .i32 xs[i])

set_option maxHeartbeats 1000000 in
theorem nan12 (a : Int) (w : World) : Calls Yba.prog 12 #[.int .i32 a] w fun e w' => e = .returned (.bool false) ∧ w' = w := by
  go_enter Yba.func12, Yba.ntmps12
  go_wp2
  go_ret
  exact ⟨rfl, rfl⟩
set_option maxHeartbeats 1000000 in
theorem nan13 (a : Int) (w : World) : Calls Yba.prog 13 #[.int .i32 a] w fun e w' => e = .returned (.bool false) ∧ w' = w := by
  go_enter Yba.func13, Yba.ntmps13
  go_wp2
  go_ret
  exact ⟨rfl, rfl⟩
set_option maxHeartbeats 1000000 in
theorem less_any (a b : Int) (w : World) : Calls Yba.prog 11 #[.int .i32 a, .int .i32 b] w fun e w' => e = .returned (.bool (decide (a < b))) ∧ w' = w := by
  go_enter Yba.func11, Yba.ntmps11
  go_wp2_with (go_at_call 13; refine (nan13 a _).mono ?_; rintro e w' ⟨rfl, rfl⟩)
  go_ret
  exact ⟨rfl, rfl⟩
/-- What a search hands back: the first place at which the target may stand. -/
def SPost (w : World) (xs : List Int) (t : Int) (e : Ending) (w' : World) : Prop :=
  ∃ (j : Nat) (fb : Bool), e = .returned (.tuple #[.int .i64 (j : Int), .bool fb]) ∧ w' = w ∧ j ≤ xs.length ∧ (∀ i (h : i < xs.length), i < j → xs[i] < t) ∧ (∀ i (h : i < xs.length), j ≤ i → t ≤ xs[i])

/-- The middle. -/
theorem mid_lt {i j : Nat} (h : i < j) : i ≤ (i + j) / 2 ∧ (i + j) / 2 < j := by omega

set_option maxHeartbeats 2000000 in
theorem search_any (ao : Option Addr) (cap : Nat) (xs : List Int) (t : Int) (w : World) (hS : IRow32 w ao xs) (hn : xs.length ≤ 100000) (hsort : ∀ i j (hi : i < j) (hj : j < xs.length), xs[i] < xs[j]) :
    Calls Yba.prog 10 #[.slice ao xs.length cap, .int .i32 t] w fun e w' => SPost w xs t e w' := by
  have HS := hide hS
  have HO := hide hsort
  clear hS hsort
  go_enter Yba.func10, Yba.ntmps10
  go_wp2
  go_loop [7, 8] (fun a b => ∃ i j : Nat, i ≤ j ∧ j ≤ xs.length ∧ a = .int .i64 i ∧ b = .int .i64 j ∧ Hid (∀ r (h : r < xs.length), r < i → xs[r] < t) ∧ Hid (∀ r (h : r < xs.length), j ≤ r → t ≤ xs[r])) (fun a b => (intOf b - intOf a).toNat)
  case atStart => exact ⟨0, xs.length, Nat.zero_le _, Nat.le_refl _, rfl, rfl, fun r _ h => by omega, fun r h h' => by omega⟩
  case round =>
    obtain ⟨i, j, hij, hj, rfl, rfl, hlo, hhi⟩ := hrel
    by_cases hlt : i < j
    · have hlt' : (i : Int) < (j : Int) := by omega
      obtain ⟨h1, h2⟩ := mid_lt hlt
      obtain ⟨b, rfl, hc⟩ := (unhide HS) (by omega)
      have c0 := hc ((i + j) / 2) (by omega)
      go_wp2_with fail
      refine (less_any _ t _).mono ?_
      rintro e w' ⟨rfl, heqw⟩
      replace heqw := heqw.symm
      subst heqw
      by_cases hq : xs[(i + j) / 2] < t
      · have hd : decide (xs[(i + j) / 2] < t) = true := by simpa using hq
        have HL : Hid (∀ r (h : r < xs.length), r < (i + j) / 2 + 1 → xs[r] < t) := fun r h hr => by
          by_cases he : r = (i + j) / 2
          · subst he; exact hq
          · exact Int.lt_trans ((unhide HO) r ((i + j) / 2) (by omega) (by omega)) hq
        rw [hd]
        clear hd hq
        go_wp2
        go_round
        case rel => exact ⟨(i + j) / 2 + 1, j, by omega, hj, by go_num, rfl, HL, hhi⟩
        case measure => simp [intOf]; omega
      · have hd : decide (xs[(i + j) / 2] < t) = false := by simpa using hq
        have HL : Hid (∀ r (h : r < xs.length), (i + j) / 2 ≤ r → t ≤ xs[r]) := fun r h hr => by
          by_cases he : r = (i + j) / 2
          · subst he; omega
          · have := (unhide HO) ((i + j) / 2) r (by omega) h; omega
        rw [hd]
        clear hd hq
        go_wp2
        go_round
        case rel => exact ⟨i, (i + j) / 2, h1, by omega, rfl, by go_num, hlo, HL⟩
        case measure => simp [intOf]; omega
    · have hlt' : ¬ (i : Int) < (j : Int) := by omega
      obtain rfl : i = j := by omega
      by_cases hl : i < xs.length
      · have hl' : (i : Int) < (xs.length : Int) := by omega
        obtain ⟨b, rfl, hc⟩ := (unhide HS) (by omega)
        have c0 := hc i hl
        by_cases hq : xs[i] = t
        · have hq' : (xs[i] == t) = true := by simpa using hq
          clear hq
          go_wp2
          go_ret2
          exact ⟨i, true, rfl, rfl, hj, unhide hlo, unhide hhi⟩
        · have hq' : (xs[i] == t) = false := by simpa using hq
          go_wp2_with (go_at_call 12; refine (nan12 _ _).mono ?_; rintro e w' ⟨rfl, rfl⟩)
          go_ret2
          exact ⟨i, false, rfl, rfl, hj, unhide hlo, unhide hhi⟩
      · have hl' : ¬ (i : Int) < (xs.length : Int) := by omega
        go_wp2
        go_ret2
        exact ⟨i, false, rfl, rfl, hj, unhide hlo, unhide hhi⟩
#print axioms search_any
end Go.Proofs.Ybulkbsds
