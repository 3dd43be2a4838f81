/-
  The walk of (netip.Addr).AsSlice.
-/
import Derived.Test.YbulkbrvqDoorNet
import Derived.LaidEqlPtr
namespace Go.Proofs.YbulkbrvqDoor
open Go.ChangeShapes Go.WideShapes Go.ChangeAt Go.RowKit

/-- A slice of bytes that lies somewhere. -/
def Src (w : World) (v : Value) (xs : List Int) : Prop :=
  (v = .slice none 0 0 ∧ xs = []) ∨ ∃ g c, v = .slice (some ⟨g, 0, none⟩) xs.length c ∧ g < w.heap.size ∧ ∀ i, i < xs.length → w.cell? ⟨g, i, none⟩ = some (.int .u8 (xs.getD i 0))

theorem Src.below {w w' : World} {v : Value} {xs : List Int} (h : Src w v xs) (hb : Below w.heap.size w w') : Src w' v xs := by
  rcases h with h | ⟨g, c, rfl, hg, hc⟩
  · exact .inl h
  · exact .inr ⟨g, c, rfl, Nat.lt_of_lt_of_le hg hb.size, fun i hi => (hb.cell (p := ⟨g, i, none⟩) hg).trans (hc i hi)⟩

theorem Ybad.sz72 : ∃ j, Ybad.prog.info? 72 = some j ∧ j.size ≠ 0 := by
  have h : (Ybad.prog.info? 72).map (fun i => i.size) = some 2 := by kernel_rfl
  obtain ⟨i, hi, hz⟩ := Option.map_eq_some_iff.1 h
  exact ⟨i, hi, by omega⟩

theorem eq_nil (w : World) (p : Option Addr) : (Op.equalIn 9999 28 (.pointer p) (.pointer none)).run Ybad.prog w = .ok p.isNone w :=
  run_equalIn_pointer_nil w 9998 28 p rfl

theorem eq_same (w : World) (a : Addr) : (Op.equalIn 9999 28 (.pointer (some a)) (.pointer (some a))).run Ybad.prog w = .ok true w := by
  obtain ⟨j, hj, _⟩ := Ybad.sz72
  have h : ∀ d : Nat, (Op.equalIn (d + 1) 28 (.pointer (some a)) (.pointer (some a))).run Ybad.prog w = .ok true w := fun d => by
    simp [Op.equalIn, run_underlying Ybad.underlying28, sizeOf, typeInfo, hj, run_sameAddr_same]
  exact h 9998

theorem eq_other {w : World} {a4 a6 : Addr} (h : Gl w a4 a6) : (Op.equalIn 9999 28 (.pointer (some a6)) (.pointer (some a4))).run Ybad.prog w = .ok false w := by
  obtain ⟨j, hj, hz⟩ := Ybad.sz72
  obtain ⟨c4, t4, h4⟩ := h.b4
  obtain ⟨c6, t6, h6⟩ := h.b6
  have h : ∀ d : Nat, (Op.equalIn (d + 1) 28 (.pointer (some a6)) (.pointer (some a4))).run Ybad.prog w = .ok false w := fun d => by
    simp [Op.equalIn, run_underlying Ybad.underlying28, sizeOf, typeInfo, hj, hz, run_sameAddr_other w h.ne.symm h6 h4]
  exact h 9998

theorem asslice_nil (hi lo : Int) (a4 a6 : Addr) (w : World) (hG : Gl w a4 a6) :
    Calls Ybad.prog 11 #[.agg #[.int .u64 hi, .int .u64 lo, .pointer none]] w fun e w' => e = .returned (.slice none 0 0) ∧ Below w.heap.size w w' := by
  have z0 := fun X => (hG.al X).z0
  have e0 := eq_nil
  clear hG
  go_enter Ybad.func11, Ybad.ntmps11
  go_wp2
  go_ret
  exact ⟨rfl, (Below.refl _ _).alloc (Nat.le_refl _) _⟩

theorem size_setCells (g : Nat) : ∀ (vs : List Value) (o : Nat) (w : World), (w.setCells g o vs).heap.size = w.heap.size
  | [], _, _ => rfl
  | v :: r, o, w => by
    rw [World.setCells, size_setCells g r]
    simp [World.setCell]

theorem below_setCells {B g : Nat} (hg : B ≤ g) : ∀ (vs : List Value) (o : Nat) {a w : World}, Below B a w → Below B a (w.setCells g o vs)
  | [], _, _, _, h => h
  | v :: r, o, _, w, h => by
    rw [World.setCells]
    exact below_setCells hg r _ (h.setCell (by exact hg) v)

theorem src_set {W : World} {g c : Nat} {xs : List Int} (hc : ∀ j, j < xs.length → (W.cell? ⟨g, j, none⟩).isSome = true) (hg : g < W.heap.size) : Src (W.setCells g 0 (xs.map (Value.int .u8))) (.slice (some ⟨g, 0, none⟩) xs.length c) xs := by
  refine .inr ⟨g, c, rfl, by rw [size_setCells]; exact hg, fun i hi => ?_⟩
  have := World.cell?_setCells_in g (xs.map (Value.int .u8)) 0 W (fun j hj => by simpa using hc j (by simpa using hj)) i (by simpa using hi)
  rw [Nat.zero_add] at this
  rw [this]
  simp [hi]

set_option maxHeartbeats 2000000 in
theorem asslice_4 (lo : Int) (a4 a6 : Addr) (w : World) (hG : Gl w a4 a6) :
    Calls Ybad.prog 11 #[.agg #[.int .u64 0, .int .u64 lo, .pointer (some a4)]] w fun e w' => ∃ v, e = .returned v ∧ Src w' v [lo % 4294967296 / 16777216, lo % 4294967296 / 65536 % 256, lo % 4294967296 / 256 % 256, lo % 256] ∧ Below w.heap.size w w' := by
  have z0 := fun X => (hG.al X).z0
  have e0 := eq_nil
  have z4 := fun X => (hG.al X).z4
  have e4 := eq_same
  clear hG
  go_enter Ybad.func11, Ybad.ntmps11
  go_wp2
  go_region_with (go_at_call 15; refine (put32_any (w.heap.size + 1) 0 4 4 (lo % 4294967296) _ (by omega) (by omega) (by omega) (.int .u8 0) (.int .u8 0) (.int .u8 0) (.int .u8 0) (by simp) (by simp) (by simp) (by simp) (by simp) (by simp) (by simp) (by simp)).mono ?_; rintro e w' ⟨rfl, rfl⟩)
  all_goals go_wp2
  all_goals go_ret
  refine ⟨_, rfl, src_set (xs := [lo % 4294967296 / 16777216, lo % 4294967296 / 65536 % 256, lo % 4294967296 / 256 % 256, lo % 256]) (fun j hj => ?_) (by simp), below_setCells (by omega) _ _ ((((Below.refl _ _).alloc (Nat.le_refl _) _).alloc (by simp) _).drew)⟩
  simp at hj
  match j, hj with
  | 0, _ => simp
  | 1, _ => simp
  | 2, _ => simp
  | 3, _ => simp

set_option maxHeartbeats 4000000 in
theorem asslice_6 (hi lo : Int) (hhi0 : 0 ≤ hi) (hhi1 : hi < 18446744073709551616) (hlo0 : 0 ≤ lo) (hlo1 : lo < 18446744073709551616) (a4 a6 : Addr) (w : World) (hG : Gl w a4 a6) :
    Calls Ybad.prog 11 #[.agg #[.int .u64 hi, .int .u64 lo, .pointer (some a6)]] w fun e w' => ∃ v, e = .returned v ∧ Src w' v
      [hi / 72057594037927936, hi / 281474976710656 % 256, hi / 1099511627776 % 256, hi / 4294967296 % 256, hi / 16777216 % 256, hi / 65536 % 256, hi / 256 % 256, hi % 256,
       lo / 72057594037927936, lo / 281474976710656 % 256, lo / 1099511627776 % 256, lo / 4294967296 % 256, lo / 16777216 % 256, lo / 65536 % 256, lo / 256 % 256, lo % 256] ∧ Below w.heap.size w w' := by
  have z0 := fun X => (hG.al X).z0
  have e0 := eq_nil
  have z4 := fun X => (hG.al X).z4
  have e6 := fun X => eq_other (hG.al X)
  clear hG
  go_enter Ybad.func11, Ybad.ntmps11
  go_wp2
  go_region_with (go_at_call 16; refine (put64_any (w.heap.size + 1) 0 8 16 hi _ (by omega) (by omega) (by omega) (.int .u8 0) (.int .u8 0) (.int .u8 0) (.int .u8 0) (.int .u8 0) (.int .u8 0) (.int .u8 0) (.int .u8 0) (by simp) (by simp) (by simp) (by simp) (by simp) (by simp) (by simp) (by simp) (by simp) (by simp) (by simp) (by simp) (by simp) (by simp) (by simp) (by simp)).mono ?_; rintro e w' ⟨rfl, rfl⟩)
  go_wp2
  obtain ⟨W1, hW1⟩ : ∃ W1, W1 = (((w.alloc (.cells #[.int .u64 hi, .int .u64 lo, .pointer (some a6)] 32)).alloc (.cells #[.int .u8 0, .int .u8 0, .int .u8 0, .int .u8 0, .int .u8 0, .int .u8 0, .int .u8 0, .int .u8 0, .int .u8 0, .int .u8 0, .int .u8 0, .int .u8 0, .int .u8 0, .int .u8 0, .int .u8 0, .int .u8 0] 23)).drew.setCells (w.heap.size + 1) 0 [.int .u8 (hi / 72057594037927936), .int .u8 (hi / 281474976710656 % 256), .int .u8 (hi / 1099511627776 % 256), .int .u8 (hi / 4294967296 % 256), .int .u8 (hi / 16777216 % 256), .int .u8 (hi / 65536 % 256), .int .u8 (hi / 256 % 256), .int .u8 (hi % 256)]) := ⟨_, rfl⟩
  have glo : W1.cell? ⟨w.heap.size, 1, none⟩ = some (.int .u64 lo) := by
    rw [hW1, World.cell?_setCells_out _ _ _ _ _ (by simp)]
    simp
  have gfr : ∀ j, W1.frozen? ⟨w.heap.size + 1, j, none⟩ = false := fun j => by
    rw [hW1, World.frozen?_setCells]
    simp
  have gout : ∀ j, 8 ≤ j → j < 16 → W1.cell? ⟨w.heap.size + 1, j, none⟩ = some (.int .u8 0) := fun j h1 h2 => by
    rw [hW1, World.cell?_setCells_out _ _ _ _ _ (by simp; omega)]
    have : j = 8 ∨ j = 9 ∨ j = 10 ∨ j = 11 ∨ j = 12 ∨ j = 13 ∨ j = 14 ∨ j = 15 := by omega
    rcases this with rfl | rfl | rfl | rfl | rfl | rfl | rfl | rfl <;> simp
  have gin : ∀ j (hj : j < 8), W1.cell? ⟨w.heap.size + 1, j, none⟩ = some (.int .u8 ([hi / 72057594037927936, hi / 281474976710656 % 256, hi / 1099511627776 % 256, hi / 4294967296 % 256, hi / 16777216 % 256, hi / 65536 % 256, hi / 256 % 256, hi % 256].getD j 0)) := fun j hj => by
    have e := World.cell?_setCells_in (w.heap.size + 1) [.int .u8 (hi / 72057594037927936), .int .u8 (hi / 281474976710656 % 256), .int .u8 (hi / 1099511627776 % 256), .int .u8 (hi / 4294967296 % 256), .int .u8 (hi / 16777216 % 256), .int .u8 (hi / 65536 % 256), .int .u8 (hi / 256 % 256), .int .u8 (hi % 256)] 0 ((w.alloc (.cells #[.int .u64 hi, .int .u64 lo, .pointer (some a6)] 32)).alloc (.cells #[.int .u8 0, .int .u8 0, .int .u8 0, .int .u8 0, .int .u8 0, .int .u8 0, .int .u8 0, .int .u8 0, .int .u8 0, .int .u8 0, .int .u8 0, .int .u8 0, .int .u8 0, .int .u8 0, .int .u8 0, .int .u8 0] 23)).drew (fun j hj => by
      have : j = 0 ∨ j = 1 ∨ j = 2 ∨ j = 3 ∨ j = 4 ∨ j = 5 ∨ j = 6 ∨ j = 7 := by simp at hj; omega
      rcases this with rfl | rfl | rfl | rfl | rfl | rfl | rfl | rfl <;> simp) j (by simpa using hj)
    rw [Nat.zero_add, ← hW1] at e
    rw [e]
    have : j = 0 ∨ j = 1 ∨ j = 2 ∨ j = 3 ∨ j = 4 ∨ j = 5 ∨ j = 6 ∨ j = 7 := by omega
    rcases this with rfl | rfl | rfl | rfl | rfl | rfl | rfl | rfl <;> simp
  have gsz : w.heap.size + 1 < W1.heap.size := by rw [hW1, size_setCells]; simp
  have gbe : Below w.heap.size w W1 := by
    rw [hW1]
    exact below_setCells (by omega) _ _ ((((Below.refl _ _).alloc (Nat.le_refl _) _).alloc (by simp) _).drew)
  rw [← hW1]
  clear hW1 z0 e0 z4 e6
  have o8 := gout 8 (by omega) (by omega)
  have o9 := gout 9 (by omega) (by omega)
  have o10 := gout 10 (by omega) (by omega)
  have o11 := gout 11 (by omega) (by omega)
  have o12 := gout 12 (by omega) (by omega)
  have o13 := gout 13 (by omega) (by omega)
  have o14 := gout 14 (by omega) (by omega)
  have o15 := gout 15 (by omega) (by omega)
  have HI := hide gin
  clear gin gout
  go_region_with (go_at_call 16; refine (put64_any (w.heap.size + 1) 8 8 8 lo _ (by omega) (by omega) (by omega) (.int .u8 0) (.int .u8 0) (.int .u8 0) (.int .u8 0) (.int .u8 0) (.int .u8 0) (.int .u8 0) (.int .u8 0) (by simp [o8]) (by simp [gfr]) (by simp [o9]) (by simp [gfr]) (by simp [o10]) (by simp [gfr]) (by simp [o11]) (by simp [gfr]) (by simp [o12]) (by simp [gfr]) (by simp [o13]) (by simp [gfr]) (by simp [o14]) (by simp [gfr]) (by simp [o15]) (by simp [gfr])).mono ?_; rintro e w' ⟨rfl, rfl⟩)
  go_wp2
  go_ret
  refine ⟨_, rfl, .inr ⟨w.heap.size + 1, 16, rfl, by rw [size_setCells]; exact gsz, fun i hi => ?_⟩, below_setCells (by omega) _ _ gbe.drew⟩
  by_cases h8 : i < 8
  · rw [World.cell?_setCells_out _ _ _ _ _ (by simp; omega)]
    show W1.cell? _ = _
    rw [unhide HI i h8]
    have : i = 0 ∨ i = 1 ∨ i = 2 ∨ i = 3 ∨ i = 4 ∨ i = 5 ∨ i = 6 ∨ i = 7 := by omega
    rcases this with rfl | rfl | rfl | rfl | rfl | rfl | rfl | rfl <;> simp
  · simp at hi
    obtain ⟨j, rfl⟩ : ∃ j, i = 8 + j := ⟨i - 8, by omega⟩
    have e := World.cell?_setCells_in (w.heap.size + 1) [.int .u8 (lo / 72057594037927936), .int .u8 (lo / 281474976710656 % 256), .int .u8 (lo / 1099511627776 % 256), .int .u8 (lo / 4294967296 % 256), .int .u8 (lo / 16777216 % 256), .int .u8 (lo / 65536 % 256), .int .u8 (lo / 256 % 256), .int .u8 (lo % 256)] 8 W1.drew (fun j hj => by
      have : j = 0 ∨ j = 1 ∨ j = 2 ∨ j = 3 ∨ j = 4 ∨ j = 5 ∨ j = 6 ∨ j = 7 := by simp at hj; omega
      rcases this with rfl | rfl | rfl | rfl | rfl | rfl | rfl | rfl <;> simp [o8, o9, o10, o11, o12, o13, o14, o15]) j (by simp; omega)
    rw [e]
    have : j = 0 ∨ j = 1 ∨ j = 2 ∨ j = 3 ∨ j = 4 ∨ j = 5 ∨ j = 6 ∨ j = 7 := by omega
    rcases this with rfl | rfl | rfl | rfl | rfl | rfl | rfl | rfl <;> simp

#print axioms asslice_6
end Go.Proofs.YbulkbrvqDoor
