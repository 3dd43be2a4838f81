/-
  The walk of zzs3437aeq at two slices of the same numbers.
-/
import Derived.Test.YbulkbsdsIter
import Derived.BigRegion
import Derived.Deep.QuietTactic
import Derived.BigQuiet
import Derived.Laws.OwnMore
namespace Go.Proofs.Ybulkbsds
open Go.RowKit

def IRow (w : World) (ao : Option Addr) (xs : List Int) : Prop := 0 < xs.length → ∃ b, ao = some ⟨b, 0, none⟩ ∧ ∀ i (h : i < xs.length), w.cell? ⟨b, i, none⟩ = some (.int .i64 xs[i])

theorem own_irow {w : World} {base : Nat} {v : Value} {xs : List Int} (h : w.ownsRow base 3 1 v xs.length (xs.map (Value.int .i64))) : ∃ ao cap, v = .slice ao xs.length cap ∧ IRow w ao xs := by
  rcases h.2 with ⟨rfl, h0⟩ | ⟨g, cap, cur, rfl, _⟩
  · exact ⟨Option.none, 0, by rw [h0], fun hp => by omega⟩
  · refine ⟨some ⟨g, 0, none⟩, cap, rfl, fun _ => ⟨g, rfl, fun i hi => ?_⟩⟩
    rw [h.cellAt i (by omega)]
    simp [hi]

set_option maxHeartbeats 1000000 in
theorem eq_same (a1 a2 : Option Addr) (c1 c2 : Nat) (xs : List Int) (w : World) (h1 : IRow w a1 xs) (h2 : IRow w a2 xs) (hn : xs.length ≤ 100000) :
    Calls Yba.prog 7 #[.slice a1 xs.length c1, .slice a2 xs.length c2] w fun e w' => e = .returned (.bool true) ∧ ∃ nq, w' = w.drewN nq := by
  have H1 := hide h1
  have H2 := hide h2
  clear h1 h2
  go_enter Yba.func7, Yba.ntmps7
  go_wp2
  go_loopw [13] (fun i wr => ∃ k nq : Nat, k ≤ xs.length ∧ i = .int .i64 k ∧ wr = w.drewN nq) (fun i _ => xs.length - (intOf i).toNat)
  case atStart => exact ⟨0, 0, Nat.zero_le _, rfl, rfl⟩
  case round =>
    obtain ⟨k, nq, hk, rfl, rfl⟩ := hrel
    by_cases hlt : k < xs.length
    · obtain ⟨b1, rfl, q1⟩ := (unhide H1) (by omega)
      obtain ⟨b2, rfl, q2⟩ := (unhide H2) (by omega)
      have d1 := q1 k hlt
      have d2 := q2 k hlt
      clear q1 q2
      have hlt' : (k : Int) < (xs.length : Int) := by omega
      go_wp2
      go_quiet (fail)
      go_wp2
      go_roundw
      case rel => exact ⟨k + 1, _, by omega, by go_num, by first | rfl | exact (World.drewN_drewN _ _ _)⟩
      case measure => simp [intOf]; omega
    · go_wp2
      go_ret
      exact ⟨rfl, nq, rfl⟩

#print axioms eq_same
end Go.Proofs.Ybulkbsds
