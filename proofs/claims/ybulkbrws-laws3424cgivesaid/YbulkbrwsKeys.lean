/-
  The keys as values: 32 cells, kept behind a name; what the walk needs of them.
-/
import Derived.Test.YbulkbrwsRows
import Derived.WalkKit
import Derived.ProofKit
import Derived.WalkLawsBesides
import Derived.WalkSpells
import Derived.RegionTactic
import Derived.BigRegion
import Derived.Deep.QuietTactic
import Derived.BigQuiet
import Derived.Deep.RegionWith
import Derived.Deep.MidRow
import Derived.Deep.WholeRow
import Derived.Outline
namespace Go.Proofs.Ybulkbrws
open Go.ChangeShapes Go.WideShapes Go.ChangeAt Go.RowKit

theorem hide {p : Prop} (h : p) : Hid p := h
theorem unhide {p : Prop} (h : Hid p) : p := h

/-- No key yet. -/
def Z32 : Array Value := #[.int .u8 0, .int .u8 0, .int .u8 0, .int .u8 0, .int .u8 0, .int .u8 0, .int .u8 0, .int .u8 0, .int .u8 0, .int .u8 0, .int .u8 0, .int .u8 0, .int .u8 0, .int .u8 0, .int .u8 0, .int .u8 0, .int .u8 0, .int .u8 0, .int .u8 0, .int .u8 0, .int .u8 0, .int .u8 0, .int .u8 0, .int .u8 0, .int .u8 0, .int .u8 0, .int .u8 0, .int .u8 0, .int .u8 0, .int .u8 0, .int .u8 0, .int .u8 0]
/-- The key that zzs3424ckey makes of a byte. -/
def KC (b : Int) : Array Value := #[.int .u8 b, .int .u8 0, .int .u8 0, .int .u8 0, .int .u8 0, .int .u8 0, .int .u8 0, .int .u8 0, .int .u8 0, .int .u8 0, .int .u8 0, .int .u8 0, .int .u8 0, .int .u8 0, .int .u8 0, .int .u8 0, .int .u8 0, .int .u8 0, .int .u8 0, .int .u8 0, .int .u8 0, .int .u8 0, .int .u8 0, .int .u8 0, .int .u8 0, .int .u8 0, .int .u8 0, .int .u8 0, .int .u8 0, .int .u8 0, .int .u8 0, .int .u8 (bits .xor .u8 b 90)]

theorem Z32_size : Z32.size = 32 := rfl
theorem KC_size (b : Int) : (KC b).size = 32 := rfl
theorem KC_one (b : Int) : (KC b).all (·.oneCell') = true := by simp [KC, Value.oneCell']
theorem info27 : (Yba.prog.info? 27).map (·.size) = some 32 := by kernel_rfl
theorem info37 : (Yba.prog.info? 37).map (·.size) = some 64 := by kernel_rfl

/-- 'var k clientKey', 'new' memory for one: as the walk meets it. -/
theorem alloc27 (w : World) : (Instr.alloc 27 true (.tuple #[])).run Yba.prog w = .ok (.pointer (some ⟨w.heap.size, 0, none⟩)) (w.alloc (.cells Z32 27)) := by kernel_rfl

theorem cells5 : Yba.prog.cellsOf 5 = 1 := by kernel_rfl

theorem part5 (X : Array Value) (j : Nat) (n : Int) (w : World) (h : X[j]? = some (.int .u8 n)) : (part 5 X (j * 1)).run Yba.prog w = .ok (.int .u8 n) w := by
  simp [part, h]

theorem items_same (X Y : Array Value) (x : Nat → Int) (d : Nat) (w : World) : ∀ l : List Nat, (∀ i ∈ l, X[i]? = some (.int .u8 (x i))) → (∀ i ∈ l, Y[i]? = some (.int .u8 (x i))) →
    (Op.eqItems (d + 1) 5 1 X Y l).run Yba.prog w = .ok true w
  | [], _, _ => by simp [Op.eqItems]
  | j :: l, hX, hY => by
    simp only [Op.eqItems, Sem.run_bind, part5 X j _ w (hX j (by simp)), part5 Y j _ w (hY j (by simp)), Result.andThen_ok, run_equalIn_int w d 5 .u8 .u8 _ _ Yba.underlying5]
    simp only [beq_self_eq_true, Bool.not_true, Bool.false_eq_true, if_false]
    exact items_same X Y x d w l (fun i hi => hX i (by simp [hi])) (fun i hi => hY i (by simp [hi]))

theorem info5 : ∃ i, Yba.prog.info? 5 = some i := by
  have h : (Yba.prog.info? 5).map (fun i => i.size) = some 1 := by kernel_rfl
  obtain ⟨i, hi, _⟩ := Option.map_eq_some_iff.1 h
  exact ⟨i, hi⟩

/-- What cell i of a key holds. -/
def kcell (b : Int) (i : Nat) : Int := if i = 0 then b else if i = 31 then bits .xor .u8 b 90 else 0
theorem KC_at (b : Int) (i : Nat) (h : i < 32) : (KC b)[i]? = some (.int .u8 (kcell b i)) := by
  have : i = 0 ∨ i = 1 ∨ i = 2 ∨ i = 3 ∨ i = 4 ∨ i = 5 ∨ i = 6 ∨ i = 7 ∨ i = 8 ∨ i = 9 ∨ i = 10 ∨ i = 11 ∨ i = 12 ∨ i = 13 ∨ i = 14 ∨ i = 15 ∨ i = 16 ∨ i = 17 ∨ i = 18 ∨ i = 19 ∨ i = 20 ∨ i = 21 ∨ i = 22 ∨ i = 23 ∨ i = 24 ∨ i = 25 ∨ i = 26 ∨ i = 27 ∨ i = 28 ∨ i = 29 ∨ i = 30 ∨ i = 31 := by omega
  rcases this with rfl | rfl | rfl | rfl | rfl | rfl | rfl | rfl | rfl | rfl | rfl | rfl | rfl | rfl | rfl | rfl | rfl | rfl | rfl | rfl | rfl | rfl | rfl | rfl | rfl | rfl | rfl | rfl | rfl | rfl | rfl | rfl <;> rfl

theorem eq_same (b : Int) (w : World) : (Op.equalIn 10000 27 (.agg (KC b)) (.agg (KC b))).run Yba.prog w = .ok true w := by
  obtain ⟨i, hi⟩ := info5
  have h := run_equalIn_array (P := Yba.prog) w 9999 (KC b) (KC b) Yba.underlying27 hi
  rw [h, cells5]
  exact items_same (KC b) (KC b) (kcell b) 9998 w (List.range 32) (fun i hi => KC_at b i (by simpa using hi)) (fun i hi => KC_at b i (by simpa using hi))

theorem eq_other (a b : Int) (hab : (a == b) = false) (w : World) : (Op.equalIn 10000 27 (.agg (KC a)) (.agg (KC b))).run Yba.prog w = .ok false w := by
  obtain ⟨i, hi⟩ := info5
  have h := run_equalIn_array (P := Yba.prog) w 9999 (KC a) (KC b) Yba.underlying27 hi
  rw [h, cells5, List.range_succ_eq_map]
  simp only [Op.eqItems, Sem.run_bind, part5 (KC a) 0 _ w (KC_at a 0 (by omega)), part5 (KC b) 0 _ w (KC_at b 0 (by omega)), Result.andThen_ok, run_equalIn_int w 9998 5 .u8 .u8 _ _ Yba.underlying5]
  simp [kcell, hab]

/-! ### The walk's laws for operations on many cells -/
section
variable {P : Program} {ops : Array Oper} {rest : List Oper} {o : Oper} {a : Act} {w : World} {Q : Exit → Act → World → Prop}

theorem wpList_alloc_run (hg : o.guard = none) (t : TypeId) (hop : o.op = .alloc t) {v : Value} {w' : World} (hr : (Instr.alloc t true (.tuple #[])).run P w = .ok v w') (h : wpList P ops Q rest (a.put o.dst v) w') : wpList P ops Q (o :: rest) a w :=
  wpList_plain hg fun _ hK => by
    unfold Oper.wp execOp
    simp only [hop, Sem.run_bind, hr, Result.andThen_ok, Sem.run_pure]
    exact hK _ _ h

theorem wpList_build_run (hg : o.guard = none) (t : TypeId) (parts : Array (Nat × Operand)) (hop : o.op = .build t parts) {v : Value} {w' : World} (hr : (Instr.build t (parts.map fun (i, x) => (i, a.eval x))).run P w = .ok v w') (h : wpList P ops Q rest (a.put o.dst v) w') : wpList P ops Q (o :: rest) a w :=
  wpList_plain hg fun _ hK => by
    unfold Oper.wp execOp
    simp only [hop, Sem.run_bind, hr, Result.andThen_ok, Sem.run_pure]
    exact hK _ _ h

theorem wpList_index_run (hg : o.guard = none) (t : TypeId) (x y : Operand) (hop : o.op = .index t x y) {vx vy v : Value} {w' : World} (hx : a.eval x = vx) (hy : a.eval y = vy) (hr : (Instr.index t vx vy).run P w = .ok v w') (h : wpList P ops Q rest (a.put o.dst v) w') : wpList P ops Q (o :: rest) a w :=
  wpList_plain hg fun _ hK => by
    unfold Oper.wp execOp
    simp only [hop, hx, hy, Sem.run_bind, hr, Result.andThen_ok, Sem.run_pure]
    exact hK _ _ h

/-- A whole row stored over a block that is known whole. -/
theorem wpList_store_block (hg : o.guard = none) (ty : TypeId) (x y : Operand) (hop : o.op = .store ty x y) (g : Nat) (old cs : Array Value) (t : TypeId) (hx : a.eval x = .pointer (some ⟨g, 0, none⟩)) (hy : a.eval y = .agg cs)
    (hb : w.heap[g]? = some (.cells old t (0, 0))) (hs : old.size = cs.size) (hi : (P.info? ty).map (·.size) = some cs.size) (h1 : cs.all (·.oneCell') = true)
    (h : ∀ w', w'.heap[g]? = some (.cells cs t (0, 0)) → w.grownBy w' (some g) → wpList P ops Q rest (a.put o.dst undef) w') : wpList P ops Q (o :: rest) a w := by
  have ht : w.there g 0 cs.size := fun j hj => by
    rw [Nat.zero_add, cell_of_row w g j old t (0, 0) hb]
    refine ⟨?_, frozen_of_row w g j old t hb⟩
    rw [Array.getElem?_eq_getElem (by omega)]; rfl
  refine wpList_store_mid hg ty x y hop g 0 cs hx hy ht hi h1 ?_
  have e : w.setCells g 0 cs.toList = w.setRow g cs := by
    have h2 := run_storeVar_row (P := P) w g t ty old cs hb hi hs h1
    have h3 := run_storeVar_mid (P := P) w g 0 ty cs ht hi h1
    rw [h2] at h3
    injection h3 with _ h4
    exact h4.symm
  rw [e]
  exact h _ (setRow_heap w g old cs t _ hb) ⟨rfl, rfl, rfl, by simp, fun k _ hk => setRow_other w g k _ (fun e => hk (by rw [e]))⟩
end

#print axioms eq_same
#print axioms eq_other
end Go.Proofs.Ybulkbrws
