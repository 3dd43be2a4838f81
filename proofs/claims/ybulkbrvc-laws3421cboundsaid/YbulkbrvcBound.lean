/-
  The walk of LawS3421CBound.
-/
import Derived.Test.YbulkbrvcModel
import Derived.Test.YbulkbrvcNum
namespace Go.Proofs.Ybulkbrvc
open Go.ChangeShapes Go.WideShapes Go.ChangeAt Go.RowKit

/-- The pairs gathered so far. -/
def Gath (B C : Nat) (w : World) (Qs : List Pr) : Prop :=
  (∀ q ∈ Qs, okP q) ∧ w.ownsRow B 27 2 (.slice (some ⟨B, 0, none⟩) Qs.length C) Qs.length (flat Qs)

theorem gath_step {B C k : Nat} {w2 : World} {Qs : List Pr} {q : Pr} (hk : Qs.length = k) (h : ∀ q ∈ Qs, okP q) (hq : okP q) (h1 : w2.ownsRow B 27 2 (.slice (some ⟨B, 0, none⟩) (k + 1) C) (k + 1) (flat Qs ++ [.string q.1, .string q.2])) : Gath B C w2 (Qs ++ [q]) := by
  subst hk
  refine ⟨fun p hp => ?_, ?_⟩
  · rcases List.mem_append.1 hp with hp | hp
    · exact h p hp
    · simp at hp; subst hp; exact hq
  · rw [flat_snoc]
    simpa using h1

theorem okKey (s : ByteArray) (hs : s.size ≤ 4096) : okP (({ data := #[107] } ++ s, { data := #[118] }) : Pr) := by
  refine ⟨?_, ?_⟩
  · have e : (({ data := #[107] } : ByteArray) ++ s).size = 1 + s.size := by rw [ByteArray.size_append]; rfl
    show (({ data := #[107] } : ByteArray) ++ s).size ≤ maxLen
    rw [e]
    unfold maxLen
    omega
  · show (1 : Nat) ≤ maxLen
    unfold maxLen
    omega

theorem bound_long (n : Int) (a : Option Addr) (len cap : Nat) (w : World) (h : 512 < len) (hm : len ≤ maxLen) :
    Calls Yba.prog 4 #[.int .u16 n, .slice a len cap] w fun e w' => e = .returned (.bool true) ∧ Below w.heap.size w w' := by
  unfold maxLen at hm
  have h' : (512 : Int) < (len : Int) := by omega
  go_enter Yba.func4, Yba.ntmps4
  go_wp2
  go_ret
  exact ⟨rfl, Below.refl _ _⟩

set_option maxHeartbeats 1000000 in
theorem bound_short (n : Int) (hn0 : 0 ≤ n) (hn1 : n ≤ 65535) (a : Option Addr) (Ps : List Pr) (cap : Nat) (w : World) (h : Ps.length ≤ 512) (hS : Steps0 w a Ps) :
    Calls Yba.prog 4 #[.int .u16 n, .slice a Ps.length cap] w fun e w' => e = .returned (.bool true) ∧ Below w.heap.size w w' := by
  have h' : ¬ (512 : Int) < (Ps.length : Int) := by omega
  obtain ⟨i0, hi, hz0, hz1, hz2⟩ := info_parts Yba.info27
  obtain ⟨hok, hS⟩ := hS
  obtain ⟨pr, hpr⟩ : ∃ pr : Nat, (pr : Int) = 1000 + n % 100 := ⟨(1000 + n % 100).toNat, by omega⟩
  have hpr2 : pr ≤ 1099 := by omega
  have HP := hide hpr
  clear hpr
  go_enter Yba.func4, Yba.ntmps4
  go_wp2_with (at_make; refine wpList_make_own _ rfl _ _ 23 rfl w.heap.size 27 i0 (.agg #[.string ⟨#[]⟩, .string ⟨#[]⟩]) 2 Yba.underlying23 hi hz0 hz1 _ _ _ (pr + Ps.length) rfl rfl (by have := unhide HP; omega) (by rw [hz2]; omega) (by unfold maxLen; omega) (Nat.le_refl _) ?_)
  intro w1 hown1 hgrow1
  have hnx1 : Below w.heap.size w w1 := (Below.refl _ _).grown hgrow1 (Nat.le_refl _) (fun k h => by cases h)
  have hz : w.heap.size < w1.heap.size := (hown1.lt _ rfl).2
  clear hgrow1
  go_wp2
  go_loopw [6, 7] (fun v i wr => ∃ (Qs : List Pr), Qs.length ≤ pr ∧ i = .int .i64 Qs.length ∧ v = .slice (some ⟨w.heap.size, 0, none⟩) Qs.length (pr + Ps.length) ∧ Gath w.heap.size (pr + Ps.length) wr Qs ∧ Below w.heap.size w wr)
    (fun _ i _ => pr - (intOf i).toNat)
  case atStart => exact ⟨[], Nat.zero_le _, rfl, rfl, ⟨fun q hq => by simp at hq, hown1⟩, hnx1⟩
  case round =>
    obtain ⟨Qs, hk, rfl, rfl, hgat, hnx⟩ := hrel
    by_cases hlt : Qs.length < pr
    · have hlt' : (Qs.length : Int) < 1000 + n % 100 := by have := unhide HP; omega
      have hzz : w.heap.size < wr.heap.size := (hgat.2.lt _ rfl).2
      go_wp2_with fail
      refine (num_any Qs.length (by omega) (by omega) _).mono ?_
      rintro e w2 ⟨s, rfl, hs, hb2⟩
      have hgat2 : w2.ownsRow w.heap.size 27 2 (.slice (some ⟨w.heap.size, 0, none⟩) Qs.length (pr + Ps.length)) Qs.length (flat Qs) := hgat.2.kept (w' := w2) (row := none) ⟨hb2.os, hb2.tape, hb2.output, hb2.size, fun k hk _ => hb2.block k hk⟩ (by simp [Value.ownBlock])
      have hnx2 : Below w.heap.size w w2 := hnx.trans (hb2.mono (by omega))
      have hzz2 : w.heap.size < w2.heap.size := (hgat2.lt _ rfl).2
      have hq : okP (({ data := #[107] } ++ s, { data := #[118] }) : Pr) := okKey s hs
      have hst := fun w3 => gath_step (w2 := w3) (B := w.heap.size) (C := pr + Ps.length) (k := Qs.length) rfl hgat.1 hq
      have HST := hide hst
      clear hst hS hok hq hgat
      go_wp2_with (at_builtin; refine wpList_append_fits _ rfl (.tmp 27) (.tmp 32) 23 rfl w.heap.size 27 i0 2 Yba.underlying23 hi hz1 w.heap.size Qs.length (pr + Ps.length) _ rfl (hgat2.alloc _) ⟨w2.heap.size, 0, none⟩ 1 1 [.string ({ data := #[107] } ++ s), .string { data := #[118] }] rfl rfl ?c1 ?c2 ?c3 ?_)
      case c1 =>
        intro j u hj
        match j, hj with
        | 0, hj => simp at hj; subst hj; simp [Addr.add]
        | 1, hj => simp at hj; subst hj; simp [Addr.add]
      case c2 => intro u hu; simp at hu; rcases hu with rfl | rfl <;> rfl
      case c3 => omega
      intro w3 hown3 hgrow3
      have hnx3 : Below w.heap.size w w3 := (hnx2.alloc (by omega) _).grown hgrow3 (by simp; omega) (fun k h => by cases h; exact Nat.le_refl _)
      have hg3 := unhide HST w3 hown3
      clear hgrow3 hown3 HST
      go_wp2
      go_roundw
      case rel => exact ⟨Qs ++ [_], by rw [List.length_append]; exact hlt, by simp, by simp, hg3, hnx3⟩
      case measure => simp [intOf]; omega
    · have hlt' : ¬ (Qs.length : Int) < 1000 + n % 100 := by have := unhide HP; omega
      have hQ : Qs.length = pr := by omega
      have hzz : w.heap.size < wr.heap.size := (hgat.2.lt _ rfl).2
      have HQ := hide hQ
      clear hQ
      rename World => wo
      go_wp2
      go_loopw [6, 36] (fun v i wr => ∃ (k : Nat) (Rs : List Pr), k ≤ Ps.length ∧ Rs.length = pr + k ∧ i = .int .i64 k ∧ v = .slice (some ⟨w.heap.size, 0, none⟩) Rs.length (pr + Ps.length) ∧ Gath w.heap.size (pr + Ps.length) wr Rs ∧ Below w.heap.size w wr)
        (fun _ i _ => Ps.length - (intOf i).toNat)
      case atStart => exact ⟨0, Qs, Nat.zero_le _, unhide HQ, rfl, rfl, hgat, hnx⟩
      case round =>
        obtain ⟨k, Rs, hk2, hR, rfl, rfl, hgr, hnr⟩ := hrel
        have HR := hide hR
        clear hR
        have hzr : w.heap.size < wr.heap.size := (hgr.2.lt _ rfl).2
        by_cases hk3 : k < Ps.length
        · obtain ⟨b, off, rfl, hb, hcells⟩ := hS (by omega)
          have c0 : wr.cell? ⟨b, off + k * 2, none⟩ = some (.string Ps[k].1) := (hnr.cell (by exact hb)).trans (hcells k hk3).1
          have c1 : wr.cell? ⟨b, off + k * 2 + 1, none⟩ = some (.string Ps[k].2) := (hnr.cell (by exact hb)).trans (hcells k hk3).2
          have hst := fun w3 => gath_step (w2 := w3) (B := w.heap.size) (C := pr + Ps.length) (k := Rs.length) rfl hgr.1 (hok Ps[k] (by simp))
          have HST := hide hst
          have hown := hgr.2
          clear hst hS hok hcells hgat hgr
          go_wp2_with (at_builtin; refine wpList_append_fits _ rfl (.tmp 40) (.tmp 46) 23 rfl w.heap.size 27 i0 2 Yba.underlying23 hi hz1 w.heap.size Rs.length (pr + Ps.length) _ rfl ((hown.alloc _).alloc _) ⟨wr.heap.size + 1, 0, none⟩ 1 1 [.string Ps[k].1, .string Ps[k].2] rfl rfl ?d1 ?d2 ?d3 ?_)
          case d1 =>
            intro j u hj
            match j, hj with
            | 0, hj => simp at hj; subst hj; simp [Addr.add]
            | 1, hj => simp at hj; subst hj; simp [Addr.add]
          case d2 => intro u hu; simp at hu; rcases hu with rfl | rfl <;> rfl
          case d3 => have := unhide HR; omega
          intro w3 hown3 hgrow3
          have hnx3 : Below w.heap.size w w3 := ((hnr.alloc (by omega) _).alloc (by simp; omega) _).grown hgrow3 (by simp; omega) (fun k h => by cases h; exact Nat.le_refl _)
          have hg3 := unhide HST w3 hown3
          clear hgrow3 hown3 HST hown
          go_wp2
          go_roundw
          case rel => exact ⟨k + 1, Rs ++ [Ps[k]], by omega, by have := unhide HR; simp; omega, by go_num, by simp, hg3, hnx3⟩
          case measure => simp [intOf]; omega
        · have hcc : ∀ i (h : i < Rs.length), wr.cell? ⟨w.heap.size, i * 2, none⟩ = some (.string Rs[i].1) ∧ wr.cell? ⟨w.heap.size, i * 2 + 1, none⟩ = some (.string Rs[i].2) := fun i hi => by
            rw [hgr.2.cellAt (i * 2) (by omega), hgr.2.cellAt (i * 2 + 1) (by omega)]
            exact flat_at Rs i hi
          have hRl : Rs.length ≤ 2048 := by have := unhide HR; omega
          have hokR := hgr.1
          clear hgr hS hgat
          go_wp2_with fail
          refine (run_any Rs w.heap.size (pr + Ps.length) _ hRl hzr hokR hcc).mono ?_
          rintro e w2 ⟨rfl, hb2⟩
          go_wp2
          go_ret
          exact ⟨rfl, hnr.trans (hb2.mono (by omega))⟩
#print axioms bound_short
end Go.Proofs.Ybulkbrvc
