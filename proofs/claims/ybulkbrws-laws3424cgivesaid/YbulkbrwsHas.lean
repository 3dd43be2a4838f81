/-
  The walks of zzs3424chas and zzs3424cclone.
-/
import Derived.Test.YbulkbrwsKeys
import Derived.Laws.CopyOwn
namespace Go.Proofs.Ybulkbrws
open Go.ChangeShapes Go.WideShapes Go.ChangeAt Go.RowKit

/-- Is the string among them? As the walk tells it. -/
def hasB (Ss : List ByteArray) (e : ByteArray) : Bool := Ss.any fun s => s.toList == e.toList
def ss (Ss : List ByteArray) : List Value := Ss.map Value.string

/-- A slice of strings that lies somewhere. -/
def SRow (w : World) (ao : Option Addr) (cap : Nat) (Ss : List ByteArray) : Prop :=
  (ao = none → Ss = [] ∧ cap = 0) ∧ (0 < Ss.length → ∃ b off, ao = some ⟨b, off, none⟩ ∧ b < w.heap.size ∧ ∀ i (h : i < Ss.length), w.cell? ⟨b, off + i, none⟩ = some (.string Ss[i]))

theorem SRow.below {w w' : World} {ao : Option Addr} {cap : Nat} {Ss : List ByteArray} (h : SRow w ao cap Ss) (hb : Below w.heap.size w w') : SRow w' ao cap Ss :=
  ⟨h.1, fun h0 => let ⟨b, off, e, hlt, hc⟩ := h.2 h0; ⟨b, off, e, Nat.lt_of_lt_of_le hlt hb.size, fun i hi => (hb.cell (p := ⟨b, off + i, none⟩) hlt).trans (hc i hi)⟩⟩

theorem take_any (Ss : List ByteArray) (e : ByteArray) (k : Nat) (h : k < Ss.length) (h1 : hasB (Ss.take k) e = false) (h2 : (Ss[k].toList == e.toList) = false) : hasB (Ss.take (k + 1)) e = false := by
  unfold hasB at *
  rw [List.take_succ_eq_append_getElem h, List.any_append, h1]
  simpa using h2

theorem has_hit (Ss : List ByteArray) (e : ByteArray) (k : Nat) (h : k < Ss.length) (h2 : (Ss[k].toList == e.toList) = true) : hasB Ss e = true := by
  unfold hasB
  exact List.any_eq_true.2 ⟨Ss[k], List.getElem_mem h, h2⟩

set_option maxHeartbeats 1000000 in
theorem has_any (ao : Option Addr) (cap : Nat) (Ss : List ByteArray) (e : ByteArray) (w : World) (hS : SRow w ao cap Ss) (hn : Ss.length ≤ 100000) :
    Calls Yba.prog 6 #[.slice ao Ss.length cap, .string e] w fun en w' => en = .returned (.bool (hasB Ss e)) ∧ w' = w := by
  have HS := hide hS
  clear hS
  go_enter Yba.func6, Yba.ntmps6
  go_wp2
  go_loop [9] (fun i => ∃ k : Nat, k ≤ Ss.length ∧ i = .int .i64 k ∧ Hid (hasB (Ss.take k) e = false)) (fun i => Ss.length - (intOf i).toNat)
  case atStart => exact ⟨0, Nat.zero_le _, rfl, (rfl : hasB (Ss.take 0) e = false)⟩
  case round =>
    obtain ⟨k, hk, rfl, hno⟩ := hrel
    by_cases hlt : k < Ss.length
    · obtain ⟨b, off, rfl, hb, hc⟩ := (unhide HS).2 (by omega)
      have c0 := hc k hlt
      clear hc
      by_cases hq : (Ss[k].toList == e.toList) = true
      · have HF := hide (has_hit Ss e k hlt hq)
        go_wp2
        go_ret
        exact ⟨by rw [unhide HF]; rfl, rfl⟩
      · have hq' : (Ss[k].toList == e.toList) = false := by simpa using hq
        have HF := hide (take_any Ss e k hlt (unhide hno) hq')
        clear hq
        go_wp2
        go_round
        case rel => exact ⟨k + 1, by omega, by go_num, HF⟩
        case measure => simp [intOf]; omega
    · have HF : Hid (hasB Ss e = false) := by
        have := unhide hno
        rwa [List.take_of_length_le (by omega)] at this
      go_wp2
      go_ret
      exact ⟨by rw [unhide HF]; rfl, rfl⟩

#print axioms has_any
end Go.Proofs.Ybulkbrws
