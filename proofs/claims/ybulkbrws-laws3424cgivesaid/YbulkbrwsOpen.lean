/-
  A 'ZzS3424CIn' that came in, opened: its six fields; its two slices of strings as they lie in memory.
-/
import Derived.Test.YbulkbrwsBuild
import Derived.OpenShut
import Derived.ChangeOld
import Derived.SliceStrings
import Derived.Deep.Fields
import Derived.Lib.SmallJoins
namespace Go.Proofs.Ybulkbrws
open Go.ChangeShapes Go.WideShapes Go.ChangeAt Go.RowKit
open Go.Deep Go.Joins

theorem Yba.own : ownKnob Yba.prog.godebug = none := by kernel_rfl
theorem Yba.laidOut : laidOutB Yba.prog = true := by kernel_rfl
theorem cells24 : Yba.prog.cellsOf 24 = 6 := by kernel_rfl
theorem cells9 : Yba.prog.cellsOf 9 = 1 := by kernel_rfl

theorem open_ss {H : Type} {enc : TypeId × Value → H} {W : World} {base : Nat} {sp : Nat → Bool} {held : Bool} {fuel : Nat} {v : Value} {y : DataW H × List MemPlace}
    (h : DataW.trod enc Yba.prog W base sp held fuel 22 [v] = some y) : ∃ (ao : Option Addr) (cap : Nat) (Ss : List ByteArray), v = .slice ao Ss.length cap ∧ Ss.length ≤ maxLen ∧ SRow W ao cap Ss := by
  rcases open_strings Yba.underlying22 Yba.underlying9 cells9 h with ⟨hcs, _⟩ | ⟨x, len, cap, ss, hcs, _, hl, hm, hz, _, hall, _⟩
  · simp at hcs
    subst hcs
    exact ⟨Option.none, 0, [], rfl, by unfold maxLen; simp, fun _ => ⟨rfl, rfl⟩, fun h => by simp at h⟩
  · simp at hcs
    subst hcs
    have hlm : len ≤ ss.length := by rw [hz]; split <;> omega
    have hlen : (ss.take len).length = len := by simp; omega
    refine ⟨some x, cap, ss.take len, by rw [hlen], by omega, (fun h => by cases h), fun h0 => ?_⟩
    rw [hlen] at h0
    obtain ⟨b, off, spot⟩ := x
    have hspot : spot = none := by simpa [Addr.add] using World.cell?_spot (hall 0 (by omega))
    subst hspot
    refine ⟨b, off, rfl, World.block_lt_of_cell? _ _ (hall 0 (by omega)), fun i hi => ?_⟩
    have := hall i (by omega)
    rw [Addr.add_mid] at this
    rw [this]
    simp at hi ⊢
    rw [List.getElem?_eq_getElem (by omega)]
    rfl

theorem array6 {α : Type} {cs : Array α} (h : cs.size = 6) : ∃ c0 c1 c2 c3 c4 c5, cs = #[c0, c1, c2, c3, c4, c5] := by
  obtain ⟨l⟩ := cs
  match l, h with
  | [c0, c1, c2, c3, c4, c5], _ => exact ⟨c0, c1, c2, c3, c4, c5, rfl⟩

theorem list6 {α : Type} {l : List α} (h : l.length = 6) : ∃ c0 c1 c2 c3 c4 c5, l = [c0, c1, c2, c3, c4, c5] := by
  match l, h with
  | [c0, c1, c2, c3, c4, c5], _ => exact ⟨c0, c1, c2, c3, c4, c5, rfl⟩

theorem open_agg6 {H : Type} {enc : TypeId × Value → H} {P : Program} {w : World} {base : Nat} {spare : Nat → Bool} {held : Bool} {r : Reach} {b0 : Nat} {t : TypeId} {f0 f1 f2 f3 f4 f5 : Field} {v : Value} {d : DataW H} {p : List MemPlace} (hs : P.underlying t = some (.struct #[f0, f1, f2, f3, f4, f5])) (hone : oneCellFields P #[f0, f1, f2, f3, f4, f5] = true) (hC : P.cellsOf t = 6)
    (hv : Value.okWide P w r b0 t v) (h : DataW.Trod enc P w base spare held t v d p) :
    ∃ (v0 v1 v2 v3 v4 v5 : Value) (y0 y1 y2 y3 y4 y5 : DataW H × List MemPlace) (n : Nat), v = .agg #[v0, v1, v2, v3, v4, v5] ∧
      DataW.trod enc P w base spare held n f0.type [v0] = some y0 ∧ DataW.trod enc P w base spare held n f1.type [v1] = some y1 ∧ DataW.trod enc P w base spare held n f2.type [v2] = some y2 ∧ DataW.trod enc P w base spare held n f3.type [v3] = some y3 ∧ DataW.trod enc P w base spare held n f4.type [v4] = some y4 ∧ DataW.trod enc P w base spare held n f5.type [v5] = some y5 := by
  obtain ⟨cs, rfl, hsz⟩ := okWide_struct hs hv
  obtain ⟨c0, c1, c2, c3, c4, c5, rfl⟩ := array6 (hsz.trans hC)
  obtain ⟨fuel, hf⟩ := h
  obtain ⟨xs, n, _, _, hl, hlen, hg⟩ := DataW.trod_struct hs hf
  obtain ⟨y0, y1, y2, y3, y4, y5, rfl⟩ := list6 hlen
  obtain ⟨o0, k0⟩ := hone_of hone 0 f0 rfl
  obtain ⟨o1, k1⟩ := hone_of hone 1 f1 rfl
  obtain ⟨o2, k2⟩ := hone_of hone 2 f2 rfl
  obtain ⟨o3, k3⟩ := hone_of hone 3 f3 rfl
  obtain ⟨o4, k4⟩ := hone_of hone 4 f4 rfl
  obtain ⟨o5, k5⟩ := hone_of hone 5 f5 rfl
  exact ⟨c0, c1, c2, c3, c4, c5, y0, y1, y2, y3, y4, y5, n, rfl, by simpa [Value.cells, o0, k0] using hg 0 f0 rfl, by simpa [Value.cells, o1, k1] using hg 1 f1 rfl, by simpa [Value.cells, o2, k2] using hg 2 f2 rfl, by simpa [Value.cells, o3, k3] using hg 3 f3 rfl, by simpa [Value.cells, o4, k4] using hg 4 f4 rfl, by simpa [Value.cells, o5, k5] using hg 5 f5 rfl⟩

theorem open_in {H : Type} {enc : TypeId × Value → H} {W : World} {base : Nat} {sp : Nat → Bool} {held : Bool} {r : Reach} {b0 : Nat} {v : Value} {d : DataW H} {p : List MemPlace}
    (hv : Value.okWide Yba.prog W r b0 24 v) (h : DataW.Trod enc Yba.prog W base sp held 24 v d p) :
    ∃ (a b s : Int) (a0 : Option Addr) (c0 : Nat) (S0 : List ByteArray) (a1 : Option Addr) (c1 : Nat) (S1 : List ByteArray) (e : ByteArray), v = .agg (IN a b s a0 S0.length c0 a1 S1.length c1 e) ∧ S0.length ≤ maxLen ∧ SRow W a0 c0 S0 ∧ S1.length ≤ maxLen ∧ SRow W a1 c1 S1 := by
  obtain ⟨v0, v1, v2, v3, v4, v5, y0, y1, y2, y3, y4, y5, n, rfl, t0, t1, t2, t3, t4, t5⟩ := open_agg6 Yba.underlying24 (by kernel_rfl) cells24 hv h
  obtain ⟨x0, e0, _⟩ := DataW.trod_int Yba.underlying5 t0
  obtain ⟨x1, e1, _⟩ := DataW.trod_int Yba.underlying5 t1
  obtain ⟨x2, e2, _⟩ := DataW.trod_int Yba.underlying5 t2
  obtain ⟨a0, c0, S0, rfl, m0, r0⟩ := open_ss t3
  obtain ⟨a1, c1, S1, rfl, m1, r1⟩ := open_ss t4
  obtain ⟨x5, e5, _⟩ := DataW.trod_string Yba.underlying9 t5
  simp at e0 e1 e2 e5
  subst e0 e1 e2 e5
  exact ⟨x0, x1, x2, a0, c0, S0, a1, c1, S1, x5, rfl, m0, r0, m1, r1⟩

#print axioms open_in
end Go.Proofs.Ybulkbrws
