/-
  The walk of LawS3421CModel.
-/
import Derived.Test.YbulkbrvcRun
namespace Go.Proofs.Ybulkbrvc
open Go.ChangeShapes Go.WideShapes Go.ChangeAt Go.RowKit

/-- The steps that came in, as pairs in memory. -/
def Steps0 (w : World) (a : Option Addr) (Ps : List Pr) : Prop :=
  (∀ p ∈ Ps, okP p) ∧ (0 < Ps.length → ∃ b off, a = some ⟨b, off, none⟩ ∧ b < w.heap.size ∧ ∀ i (h : i < Ps.length), w.cell? ⟨b, off + i * 2, none⟩ = some (.string Ps[i].1) ∧ w.cell? ⟨b, off + i * 2 + 1, none⟩ = some (.string Ps[i].2))

theorem flat_take (Ps : List Pr) (k : Nat) (h : k < Ps.length) : flat (Ps.take (k + 1)) = flat (Ps.take k) ++ [.string Ps[k].1, .string Ps[k].2] := by
  rw [List.take_succ_eq_append_getElem h, flat_snoc]

theorem row_step {B k len : Nat} {Ps : List Pr} {w2 : World} (h : k < Ps.length) (h1 : w2.ownsRow B 27 2 (.slice (some ⟨B, 0, none⟩) (k + 1) len) (k + 1) (flat (Ps.take k) ++ [.string Ps[k].1, .string Ps[k].2])) :
    w2.ownsRow B 27 2 (.slice (some ⟨B, 0, none⟩) (k + 1) len) (k + 1) (flat (Ps.take (k + 1))) := by
  rw [flat_take Ps k h]; exact h1

theorem model_long (a : Option Addr) (len cap : Nat) (w : World) (h : 2048 < len) (hm : len ≤ maxLen) :
    Calls Yba.prog 3 #[.slice a len cap] w fun e w' => e = .returned (.bool true) ∧ Below w.heap.size w w' := by
  unfold maxLen at hm
  have h' : (2048 : Int) < (len : Int) := by omega
  go_enter Yba.func3, Yba.ntmps3
  go_wp2
  go_ret
  exact ⟨rfl, Below.refl _ _⟩

set_option maxHeartbeats 1000000 in
theorem model_short (a : Option Addr) (Ps : List Pr) (cap : Nat) (w : World) (h : Ps.length ≤ 2048) (hS : Steps0 w a Ps) :
    Calls Yba.prog 3 #[.slice a Ps.length cap] w fun e w' => e = .returned (.bool true) ∧ Below w.heap.size w w' := by
  have h' : ¬ (2048 : Int) < (Ps.length : Int) := by omega
  obtain ⟨i0, hi, hz0, hz1, hz2⟩ := info_parts Yba.info27
  obtain ⟨hok, hS⟩ := hS
  go_enter Yba.func3, Yba.ntmps3
  go_wp2_with (at_make; refine wpList_make_own _ rfl _ _ 23 rfl w.heap.size 27 i0 (.agg #[.string ⟨#[]⟩, .string ⟨#[]⟩]) 2 Yba.underlying23 hi hz0 hz1 _ _ _ Ps.length rfl rfl rfl (by rw [hz2]; omega) (by unfold maxLen; omega) (Nat.le_refl _) ?_)
  intro w1 hown1 hgrow1
  have hnx1 : Below w.heap.size w w1 := (Below.refl _ _).grown hgrow1 (Nat.le_refl _) (fun k h => by cases h)
  have hz : w.heap.size < w1.heap.size := (hown1.lt _ rfl).2
  clear hgrow1
  go_wp2
  go_loopw [3, 14] (fun v i wr => ∃ k : Nat, k ≤ Ps.length ∧ i = .int .i64 k ∧ v = .slice (some ⟨w.heap.size, 0, none⟩) k Ps.length ∧ wr.ownsRow w.heap.size 27 2 (.slice (some ⟨w.heap.size, 0, none⟩) k Ps.length) k (flat (Ps.take k)) ∧ Below w.heap.size w wr)
    (fun _ i _ => Ps.length - (intOf i).toNat)
  case atStart => exact ⟨0, Nat.zero_le _, rfl, rfl, hown1, hnx1⟩
  case round =>
    obtain ⟨k, hk, rfl, rfl, hown, hnx⟩ := hrel
    by_cases hlt : k < Ps.length
    · obtain ⟨b, off, rfl, hb, hcells⟩ := hS (by omega)
      have c0 : wr.cell? ⟨b, off + k * 2, none⟩ = some (.string Ps[k].1) := (hnx.cell (by exact hb)).trans (hcells k hlt).1
      have c1 : wr.cell? ⟨b, off + k * 2 + 1, none⟩ = some (.string Ps[k].2) := (hnx.cell (by exact hb)).trans (hcells k hlt).2
      have hzz : w.heap.size < wr.heap.size := (hown.lt _ rfl).2
      have hst := fun w2 => row_step (B := w.heap.size) (len := Ps.length) (w2 := w2) hlt
      have HST := hide hst
      clear hst hS hok hcells
      go_wp2_with (at_builtin; refine wpList_append_fits _ rfl (.tmp 18) (.tmp 24) 23 rfl w.heap.size 27 i0 2 Yba.underlying23 hi hz1 w.heap.size k Ps.length _ rfl ((hown.alloc _).alloc _) ⟨wr.heap.size + 1, 0, none⟩ 1 1 [.string Ps[k].1, .string Ps[k].2] rfl rfl ?c1 ?c2 ?c3 ?_)
      case c1 =>
        intro j u hj
        match j, hj with
        | 0, hj => simp at hj; subst hj; simp [Addr.add]
        | 1, hj => simp at hj; subst hj; simp [Addr.add]
      case c2 => intro u hu; simp at hu; rcases hu with rfl | rfl <;> rfl
      case c3 => omega
      intro w2 hown2 hgrow2
      have hnx2 : Below w.heap.size w w2 := ((hnx.alloc (by omega) _).alloc (by simp; omega) _).grown hgrow2 (by simp; omega) (fun k h => by cases h; exact Nat.le_refl _)
      have hown3 := unhide HST w2 hown2
      clear hown hgrow2 hnx hown2
      go_wp2
      go_roundw
      case rel => exact ⟨k + 1, by omega, by go_num, rfl, hown3, hnx2⟩
      case measure => simp [intOf]; omega
    · obtain rfl : k = Ps.length := by omega
      rw [List.take_length] at hown
      have hcc : ∀ i (h : i < Ps.length), wr.cell? ⟨w.heap.size, i * 2, none⟩ = some (.string Ps[i].1) ∧ wr.cell? ⟨w.heap.size, i * 2 + 1, none⟩ = some (.string Ps[i].2) := fun i hi => by
        rw [hown.cellAt (i * 2) (by omega), hown.cellAt (i * 2 + 1) (by omega)]
        exact flat_at Ps i hi
      have hzz : w.heap.size < wr.heap.size := (hown.lt _ rfl).2
      clear hown hS
      go_wp2_with fail
      refine (run_any Ps w.heap.size Ps.length _ h hzz hok hcc).mono ?_
      rintro e w2 ⟨rfl, hb2⟩
      go_wp2
      go_ret
      exact ⟨rfl, hnx.trans (hb2.mono (by omega))⟩

#print axioms model_short
end Go.Proofs.Ybulkbrvc
