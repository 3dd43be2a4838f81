/-
  The iterator of condsIn where there are no clusters: its contract; what makes it.
-/
import Derived.Test.YbulkbsdsRows
import Derived.RangeFuncNested
import Derived.RangeFuncBound
import Derived.RangeFuncCalls
import Derived.RangeFuncLeaves
import Derived.RangeFuncBox
import Derived.Shelf.Abstract
import Derived.Shelf.RegionOpen
import Derived.WalkKit
import Derived.ProofKit
import Derived.OwnWalkIn
import Derived.TacticsInMore
import Derived.LoopNIn
import Derived.LoopIn
import Derived.Maps.AppendAt
import Derived.Lib.SliceRun
namespace Go.Proofs.Ybulkbsds
open Go.RowKit Go.Shelf

attribute [local go_sem] Oper.semAt_some

theorem hide {p : Prop} (h : p) : Hid p := h
theorem unhide {p : Prop} (h : Hid p) : p := h

/-- What has come when k rounds are over. -/
def upto {α : Type} (f : Nat → α) (k : Nat) : List α := (List.range k).map f
theorem upto_succ {α : Type} (f : Nat → α) (k : Nat) : upto f (k + 1) = upto f k ++ [f k] := by simp [upto, List.range_succ]
theorem upto_length {α : Type} (f : Nat → α) (k : Nat) : (upto f k).length = k := by simp [upto]

/-- All that lay below N lies as it lay, but for block g. -/
def Kept (N g : Nat) (A C : World) : Prop := C.os = A.os ∧ C.tape = A.tape ∧ C.output = A.output ∧ A.heap.size ≤ C.heap.size ∧ ∀ j, j < N → j ≠ g → C.heap[j]? = A.heap[j]?
theorem Kept.refl (N g : Nat) (A : World) : Kept N g A A := ⟨rfl, rfl, rfl, Nat.le_refl _, fun _ _ _ => rfl⟩
theorem Kept.trans {N g : Nat} {A B C : World} (h : Kept N g A B) (k : Kept N g B C) : Kept N g A C :=
  ⟨k.1.trans h.1, k.2.1.trans h.2.1, k.2.2.1.trans h.2.2.1, Nat.le_trans h.2.2.2.1 k.2.2.2.1, fun j hj hn => (k.2.2.2.2 j hj hn).trans (h.2.2.2.2 j hj hn)⟩
theorem Kept.cell {N g : Nat} {A C : World} (h : Kept N g A C) {b o : Nat} (hb : b < N) (hg : b ≠ g) : C.cell? ⟨b, o, none⟩ = A.cell? ⟨b, o, none⟩ := World.cell?_of_block (w := A) (a := ⟨b, o, none⟩) (h.2.2.2.2 b hb hg)

/-- How many the iterator gives. -/
def cnt (fr nn : Int) : Nat := (nn - fr).toNat

set_option maxRecDepth 100000 in
set_option maxHeartbeats 2000000 in
/-- listed's function, where lists is nil. -/
theorem iter_nil (F : Fence) (n : Nat) (h9 : F.fn 9) (hro : F.round = none) (hn : 1 ≤ n) (l Bl Bf Bn Bk N g : Nat) (fr nn : Int) (hf1 : -1024 ≤ fr) (hf2 : fr ≤ 1024) (hn1 : 0 ≤ nn) (hn2 : nn ≤ 255) (hBnN : Bn < N) (hBng : Bn ≠ g)
    (J Jx : List Int → World → Prop)
    (hY : ∀ pre x W, J pre W → pre.length < cnt fr nn → YieldAt F (n - 1) Yba.prog l #[.int .i64 x] W fun e W' =>
      (e = .returned (.bool true) ∧ J (pre ++ [x]) W' ∧ Kept N g W W') ∨ (e = .returned (.bool false) ∧ Jx (pre ++ [x]) W'))
    (W : World) (hBl : W.cell? ⟨Bl, 0, none⟩ = some (.slice none 0 0)) (hBf : W.cell? ⟨Bf, 0, none⟩ = some (.int .i64 fr)) (hBn : W.cell? ⟨Bn, 0, none⟩ = some (.int .i64 nn)) (h0 : J [] W) :
    CallsIn F n Yba.prog 9 #[.func (.yield l) #[] #[], .pointer (some ⟨Bl, 0, none⟩), .pointer (some ⟨Bf, 0, none⟩), .pointer (some ⟨Bn, 0, none⟩), .pointer (some ⟨Bk, 0, none⟩)] W fun e W' => (∃ v, e = .returned v) ∧
      ((∃ ys, ys = upto (fun j => fr + (j : Int)) (cnt fr nn) ∧ J ys W') ∨ (∃ pre, (∃ k, k ≤ cnt fr nn ∧ pre = upto (fun j => fr + (j : Int)) k) ∧ Jx pre W')) := by
  have hq := Go.Lib.run_eql_slice_nil (P := Yba.prog) W 50 51 (Option.none : Option Addr) 0 0 0 0 Yba.underlying50
  refine callsIn_of_wp Yba.func9 rfl h9 ?_ hro
  simp only [Yba.ntmps9, List.size_toArray, List.length_cons, List.length_nil, Nat.reduceAdd, Nat.reduceSub, Array.replicate_succ, Array.replicate_zero, List.push_toArray, List.append_toArray, List.nil_append, List.cons_append]
  gi_wp2
  gi_loopw [6] (fun i wr => ∃ k : Nat, k ≤ cnt fr nn ∧ i = .int .i64 (fr + (k : Int)) ∧ J (upto (fun j => fr + (j : Int)) k) wr ∧ Kept N g W wr)
    (fun i _ => (nn - intOf i).toNat)
  case atStart => exact ⟨0, Nat.zero_le _, by simp, h0, Kept.refl _ _ _⟩
  case round =>
    obtain ⟨k, hk, rfl, hJs, hnx⟩ := hrel
    have hcn : wr.cell? ⟨Bn, 0, none⟩ = some (.int .i64 nn) := (hnx.cell hBnN hBng).trans hBn
    by_cases hlt : k < cnt fr nn
    · have hlt' : fr + (k : Int) < nn := by unfold cnt at hlt; omega
      obtain ⟨fn, tmps, assign, body, hy, hR⟩ := hY _ (fr + (k : Int)) wr hJs (by rw [upto_length]; exact hlt)
      gi_wp2
      refine hR.mono ?_
      rintro e W3 (⟨rfl, hJ3, hk3⟩ | ⟨rfl, hJx3⟩)
      · gi_wp2
        go_roundw
        case rel => exact ⟨k + 1, by omega, by go_num, by rw [upto_succ]; exact hJ3, hnx.trans hk3⟩
        case measure => simp [intOf]; omega
      · gi_wp2
        refine bodyPost_ret (results_none rfl _ _ _) rfl ?_
        exact ⟨⟨_, rfl⟩, .inr ⟨_, ⟨k + 1, by omega, (upto_succ _ _).symm⟩, hJx3⟩⟩
    · obtain rfl : k = cnt fr nn := by omega
      have hge : ¬ fr + ((cnt fr nn : Nat) : Int) < nn := by unfold cnt; omega
      gi_wp2
      exact bodyPost_ret (results_none rfl _ _ _) rfl ⟨⟨_, rfl⟩, .inl hJs⟩

/-- It 'SeqStopsK', at 'Kept N g'. -/
theorem iter_stops (F : Fence) (n : Nat) (h9 : F.fn 9) (hro : F.round = none) (hn : 1 ≤ n) (Bl Bf Bn Bk N g : Nat) (fr nn : Int) (hf1 : -1024 ≤ fr) (hf2 : fr ≤ 1024) (hn1 : 0 ≤ nn) (hn2 : nn ≤ 255) (hBnN : Bn < N) (hBng : Bn ≠ g) (w : World)
    (hl : Bl < w.heap.size) (hf : Bf < w.heap.size) (hnn : Bn < w.heap.size)
    (hBl : w.cell? ⟨Bl, 0, none⟩ = some (.slice none 0 0)) (hBf : w.cell? ⟨Bf, 0, none⟩ = some (.int .i64 fr)) (hBn : w.cell? ⟨Bn, 0, none⟩ = some (.int .i64 nn)) :
    SeqStopsK F n Yba.prog 9 #[.pointer (some ⟨Bl, 0, none⟩), .pointer (some ⟨Bf, 0, none⟩), .pointer (some ⟨Bn, 0, none⟩), .pointer (some ⟨Bk, 0, none⟩)] (fun x : Int => #[Value.int .i64 x]) (Kept N g)
      (fun ys => ys = upto (fun j => fr + (j : Int)) (cnt fr nn)) (fun pre => ∃ k, k ≤ cnt fr nn ∧ pre = upto (fun j => fr + (j : Int)) k) (cnt fr nn) w := fun l J Jx W hW _ _ hY h0 =>
  iter_nil F n h9 hro hn l Bl Bf Bn Bk N g fr nn hf1 hf2 hn1 hn2 hBnN hBng J Jx hY W ((hW.cell (p := ⟨Bl, 0, none⟩) hl).trans hBl) ((hW.cell (p := ⟨Bf, 0, none⟩) hf).trans hBf) ((hW.cell (p := ⟨Bn, 0, none⟩) hnn).trans hBn) h0

set_option maxHeartbeats 1000000 in
/-- listed: its four parameters boxed; the function value captures the boxes. -/
theorem listed_in (F : Fence) (n : Nat) (h8 : F.fn 8) (hro : F.round = none) (v0 : Option Addr) (len cap : Nat) (k fr nn : Int) (w : World) :
    CallsIn F n Yba.prog 8 #[.slice v0 len cap, .int .i32 k, .int .i64 fr, .int .i64 nn] w fun e w' =>
      e = .returned (.func (.func 9) #[] #[.pointer (some ⟨w.heap.size, 0, none⟩), .pointer (some ⟨w.heap.size + 1 + 1, 0, none⟩), .pointer (some ⟨w.heap.size + 1 + 1 + 1, 0, none⟩), .pointer (some ⟨w.heap.size + 1, 0, none⟩)]) ∧
      w' = (((w.alloc (.cells #[.slice v0 len cap] 50)).alloc (.cells #[.int .i32 k] 21)).alloc (.cells #[.int .i64 fr] 3)).alloc (.cells #[.int .i64 nn] 3) := by
  refine callsIn_of_wp Yba.func8 rfl h8 ?_ hro
  simp only [Yba.ntmps8, List.size_toArray, List.length_cons, List.length_nil, Nat.reduceAdd, Nat.reduceSub, Array.replicate_succ, Array.replicate_zero, List.push_toArray, List.append_toArray, List.nil_append, List.cons_append]
  gi_wp2
  go_ret
  exact ⟨rfl, rfl⟩

set_option maxHeartbeats 1000000 in
/-- zzs3437alimit. -/
theorem limit_in (F : Fence) (n : Nat) (h5 : F.fn 5) (hro : F.round = none) (s : Int) (hs0 : 0 ≤ s) (hs1 : s ≤ 255) (w : World) :
    CallsIn F n Yba.prog 5 #[.int .u8 s] w fun e w' => e = .returned (.int .i64 (if s = 0 then 1048576 else s)) ∧ w' = w := by
  by_cases h : s = 0
  · subst h
    refine callsIn_of_wp Yba.func5 rfl h5 ?_ hro
    simp only [Yba.ntmps5, List.size_toArray, List.length_cons, List.length_nil, Nat.reduceAdd, Nat.reduceSub, Array.replicate_succ, Array.replicate_zero, List.push_toArray, List.append_toArray, List.nil_append, List.cons_append]
    gi_wp2
    go_ret
    exact ⟨rfl, rfl⟩
  · have h' : (s == 0) = false := by simpa using h
    refine callsIn_of_wp Yba.func5 rfl h5 ?_ hro
    simp only [Yba.ntmps5, List.size_toArray, List.length_cons, List.length_nil, Nat.reduceAdd, Nat.reduceSub, Array.replicate_succ, Array.replicate_zero, List.push_toArray, List.append_toArray, List.nil_append, List.cons_append]
    gi_wp2
    go_ret
    exact ⟨rfl, rfl⟩

set_option maxHeartbeats 1000000 in
/-- condsIn, where there are no clusters. -/
theorem conds_in (F : Fence) (n : Nat) (h6 : F.fn 6) (h8 : F.fn 8) (hro : F.round = none) (hn : 1 ≤ n) (G : Nat) (k fr : Int) (a : Option Addr) (m c : Nat) (w : World)
    (hcl : w.cell? ⟨G, 6, none⟩ = some (.pointer Option.none)) (hco : w.cell? ⟨G, 3, none⟩ = some (.slice a m c)) :
    CallsIn F n Yba.prog 6 #[.pointer (some ⟨G, 0, none⟩), .int .i32 k, .int .i64 fr] w fun e w' =>
      e = .returned (.func (.func 9) #[] #[.pointer (some ⟨w.heap.size, 0, none⟩), .pointer (some ⟨w.heap.size + 1 + 1, 0, none⟩), .pointer (some ⟨w.heap.size + 1 + 1 + 1, 0, none⟩), .pointer (some ⟨w.heap.size + 1, 0, none⟩)]) ∧
      w' = (((w.alloc (.cells #[.slice none 0 0] 50)).alloc (.cells #[.int .i32 k] 21)).alloc (.cells #[.int .i64 fr] 3)).alloc (.cells #[.int .i64 m] 3) := by
  refine callsIn_of_wp Yba.func6 rfl h6 ?_ hro
  simp only [Yba.ntmps6, List.size_toArray, List.length_cons, List.length_nil, Nat.reduceAdd, Nat.reduceSub, Array.replicate_succ, Array.replicate_zero, List.push_toArray, List.append_toArray, List.nil_append, List.cons_append]
  gi_wp2_with (gi_at_call 8; refine (listed_in F (n - 1) h8 hro _ _ _ _ _ _ _).mono ?_; rintro e w' ⟨rfl, rfl⟩)
  go_ret
  exact ⟨rfl, rfl⟩

#print axioms iter_stops
#print axioms limit_in
#print axioms conds_in
end Go.Proofs.Ybulkbsds
