/-
  The walk of zzs3424cclone.
-/
import Derived.Test.YbulkbrwsHas
import Derived.Lib.SliceRun
namespace Go.Proofs.Ybulkbrws
open Go.ChangeShapes Go.WideShapes Go.ChangeAt Go.RowKit

theorem ss_len (Ss : List ByteArray) : (ss Ss).length = Ss.length := by simp [ss]
theorem ss_one (Ss : List ByteArray) : ∀ v ∈ ss Ss, v.oneCell' = true := by
  intro v hv
  simp [ss] at hv
  obtain ⟨s, _, rfl⟩ := hv
  rfl
theorem ss_at (Ss : List ByteArray) (i : Nat) (h : i < Ss.length) : (ss Ss)[i]? = some (.string Ss[i]) := by simp [ss, h]

theorem SRow.src {w : World} {ao : Option Addr} {cap : Nat} {Ss : List ByteArray} (h : SRow w ao cap Ss) (h0 : 0 < Ss.length) : ∃ ad, ao = some ad ∧ ∀ j v, (ss Ss)[j]? = some v → w.cell? (ad.add j) = some v := by
  obtain ⟨b, off, rfl, _, hc⟩ := h.2 h0
  refine ⟨_, rfl, fun j v hv => ?_⟩
  have hj : j < Ss.length := by have := (List.getElem?_eq_some_iff.1 hv).1; rwa [ss_len] at this
  rw [ss_at _ _ hj] at hv
  rw [Addr.add_mid, hc j hj, hv]

theorem infos9 : (Yba.prog.info? 9).map (fun i => (i.zero, i.size, i.bytes)) = some (some (.string ⟨#[]⟩), 1, 16) := by kernel_rfl
theorem size9 : (Yba.prog.info? 9).map (·.size) = some 1 := by kernel_rfl

theorem made_row {w : World} {base g n : Nat} {xs : List Value} (h : w.ownsRow base 9 1 (.slice (some ⟨g, 0, none⟩) n n) n xs) : ∃ Z : List Value, Z.length = n ∧ w.heap[g]? = some (.cells Z.toArray 9 (0, 0)) := by
  rcases h.2 with ⟨h', _⟩ | ⟨g', c, cur, hv, _, hg, _, _, hcs, _⟩
  · simp at h'
  · simp only [Value.slice.injEq, Option.some.injEq, Addr.mk.injEq, true_and, and_true] at hv
    obtain ⟨rfl, rfl⟩ := hv
    exact ⟨cur.toList, by simpa using hcs, by simpa using hg⟩

set_option maxHeartbeats 1000000 in
theorem clone_any (ao : Option Addr) (cap : Nat) (Ss : List ByteArray) (w : World) (hS : SRow w ao cap Ss) (hn : Ss.length ≤ 1024) :
    Calls Yba.prog 11 #[.slice ao Ss.length cap] w fun en w' => ∃ ao', en = .returned (.slice ao' Ss.length Ss.length) ∧ SRow w' ao' Ss.length Ss ∧ (∀ ad, ao' = some ad → w.heap.size ≤ ad.block) ∧ Below w.heap.size w w' := by
  obtain ⟨i0, hi0, hz0, hz1, hz2⟩ := info_parts infos9
  have HS := hide hS
  clear hS
  cases ao with
  | none =>
    obtain ⟨h1, h2⟩ := (unhide HS).1 rfl
    subst h1
    subst h2
    have hq := Go.Lib.run_eql_slice_nil (P := Yba.prog) w 22 9 (Option.none : Option Addr) 0 0 0 0 Yba.underlying22
    go_enter Yba.func11, Yba.ntmps11
    go_wp2
    go_ret
    exact ⟨Option.none, rfl, unhide HS, (fun _ h => by cases h), Below.refl _ _⟩
  | some ad =>
    have hq := Go.Lib.run_eql_slice_nil (P := Yba.prog) w 22 9 (some ad) Ss.length cap 0 0 Yba.underlying22
    go_enter Yba.func11, Yba.ntmps11
    go_wp2_with (at_make; refine wpList_make_full _ rfl _ _ 22 rfl w.heap.size 9 i0 (.string ⟨#[]⟩) 1 Yba.underlying22 hi0 hz0 hz1 _ _ _ _ Ss.length rfl rfl rfl rfl (by rw [hz2]; omega) (by unfold maxLen; omega) (by simp) ?_)
    intro w1 hown1 hgrow1
    obtain ⟨Z, hZ, hrow1⟩ := made_row hown1
    have hbw1 : Below w.heap.size w w1 := (Below.refl _ _).grown hgrow1 (by simp) (fun k h => by cases h)
    have hpos : 0 < (ss Ss).length → some (⟨w.heap.size, 0, none⟩ : Addr) = some ⟨w.heap.size, 0, none⟩ ∧ ∃ ad', some ad = some ad' ∧ ∀ j v, (ss Ss)[j]? = some v → w1.cell? (ad'.add j) = some v := by
      intro h0
      exact ⟨rfl, ((unhide HS).below hbw1).src (by rw [ss_len] at h0; exact h0)⟩
    have HQ := hide hpos
    have HZ := hide hZ
    clear hown1 hgrow1 hpos hZ
    go_wp2_with (refine wpList_copy_splice rfl (.tmp 9) (.tmp 10) 22 22 rfl 9 Yba.underlying22 size9 _ _ _ _ _ _ rfl rfl w.heap.size 0 Z 9 hrow1 (ss Ss) (by rw [ss_len]; simp [Nat.min_def]) (unhide HQ) (by rw [ss_len, unhide HZ]; omega) (ss_one Ss) w.heap.size w1 (Below.refl _ _) (Nat.le_refl _) ?_)
    intro w2 HG2 hB2
    have hrow2 : w2.heap[w.heap.size]? = some (.cells (ss Ss).toArray 9 (0, 0)) := by
      have e : splice Z 0 (ss Ss) = ss Ss := by
        have : Z.drop (0 + (ss Ss).length) = [] := by apply List.drop_eq_nil_of_le; rw [ss_len, unhide HZ]; omega
        simp only [splice]
        rw [this]
        simp
      have := HG2.out
      rw [e] at this
      exact this
    have hsr : SRow w2 (some ⟨w.heap.size, 0, none⟩) Ss.length Ss := by
      refine ⟨fun h => (by cases h), fun h0 => ⟨_, 0, rfl, (Array.getElem?_eq_some_iff.1 hrow2).1, fun i hi => ?_⟩⟩
      rw [cell_of_row w2 _ _ _ 9 (0, 0) hrow2, Nat.zero_add]
      simpa using ss_at Ss i hi
    have hbw2 : Below w.heap.size w w2 := hbw1.trans hB2
    clear HG2 hB2 hrow2 hrow1
    go_wp2
    go_ret
    exact ⟨_, rfl, hsr, (fun _ h => by cases h; exact Nat.le_refl _), hbw2⟩

#print axioms clone_any
end Go.Proofs.Ybulkbrws
