/-
  The walks of the byte-order functions.
-/
import Derived.Test.YbulkbrvqDoorBits
import Derived.ProofKit
import Derived.WalkLawsBesides
import Derived.WalkSpells
import Derived.RegionTactic
import Derived.BigRegion
import Derived.Deep.QuietTactic
import Derived.BigQuiet
import Derived.Deep.RegionWith
import Derived.Outline
namespace Go.Proofs.YbulkbrvqDoor
open Go.ChangeShapes Go.WideShapes Go.ChangeAt Go.RowKit

set_option maxHeartbeats 4000000 in
set_option maxRecDepth 100000 in
theorem beuint64_any (g o n c : Nat) (b0 b1 b2 b3 b4 b5 b6 b7 : Int) (w : World) (hn : 8 ≤ n) (h0 : isB b0) (h1 : isB b1) (h2 : isB b2) (h3 : isB b3) (h4 : isB b4) (h5 : isB b5) (h6 : isB b6) (h7 : isB b7)
    (c0 : w.cell? ⟨g, o, none⟩ = some (.int .u8 b0)) (c1 : w.cell? ⟨g, o + 1, none⟩ = some (.int .u8 b1)) (c2 : w.cell? ⟨g, o + 2, none⟩ = some (.int .u8 b2)) (c3 : w.cell? ⟨g, o + 3, none⟩ = some (.int .u8 b3))
    (c4 : w.cell? ⟨g, o + 4, none⟩ = some (.int .u8 b4)) (c5 : w.cell? ⟨g, o + 5, none⟩ = some (.int .u8 b5)) (c6 : w.cell? ⟨g, o + 6, none⟩ = some (.int .u8 b6)) (c7 : w.cell? ⟨g, o + 7, none⟩ = some (.int .u8 b7)) :
    Calls Ybad.prog 14 #[.slice (some ⟨g, o, none⟩) n c] w fun e w' => e = .returned (.int .u64 (be8 b0 b1 b2 b3 b4 b5 b6 b7)) ∧ ∃ nq, w' = w.drewN nq := by
  have h0' := h0; have h1' := h1; have h2' := h2; have h3' := h3; have h4' := h4; have h5' := h5; have h6' := h6; have h7' := h7
  unfold isB at h0' h1' h2' h3' h4' h5' h6' h7'
  have q0 : 0 < n := by omega
  have q1 : (1 : Int) < (n : Int) := by omega
  have q2 : (2 : Int) < (n : Int) := by omega
  have q3 : (3 : Int) < (n : Int) := by omega
  have q4 : (4 : Int) < (n : Int) := by omega
  have q5 : (5 : Int) < (n : Int) := by omega
  have q6 : (6 : Int) < (n : Int) := by omega
  have q7 : (7 : Int) < (n : Int) := by omega
  go_enter Ybad.func14, Ybad.ntmps14
  go_wp2
  go_quiet (fail)
  go_wp2
  go_ret
  exact ⟨ret_int (be8_or h0 h1 h2 h3 h4 h5 h6 h7), _, rfl⟩


set_option maxHeartbeats 2000000 in
theorem put32_any (g o n c : Nat) (v : Int) (w : World) (hn : 4 ≤ n) (hv0 : 0 ≤ v) (hv1 : v < 4294967296) (u0 u1 u2 u3 : Value)
    (c0 : w.cell? ⟨g, o, none⟩ = some u0) (c1 : w.cell? ⟨g, o + 1, none⟩ = some u1) (c2 : w.cell? ⟨g, o + 2, none⟩ = some u2) (c3 : w.cell? ⟨g, o + 3, none⟩ = some u3)
    (f0 : w.frozen? ⟨g, o, none⟩ = false) (f1 : w.frozen? ⟨g, o + 1, none⟩ = false) (f2 : w.frozen? ⟨g, o + 2, none⟩ = false) (f3 : w.frozen? ⟨g, o + 3, none⟩ = false) :
    Calls Ybad.prog 15 #[.slice (some ⟨g, o, none⟩) n c, .int .u32 v] w fun e w' => e = .returned (.tuple #[]) ∧
      w' = w.setCells g o [.int .u8 (v / 16777216), .int .u8 (v / 65536 % 256), .int .u8 (v / 256 % 256), .int .u8 (v % 256)] := by
  have q0 : 0 < n := by omega
  have q1 : (1 : Int) < (n : Int) := by omega
  have q2 : (2 : Int) < (n : Int) := by omega
  have q3 : (3 : Int) < (n : Int) := by omega
  go_enter Ybad.func15, Ybad.ntmps15
  go_wp2
  go_end0
  exact ⟨rfl, rfl⟩

set_option maxHeartbeats 4000000 in
theorem put64_any (g o n c : Nat) (v : Int) (w : World) (hn : 8 ≤ n) (hv0 : 0 ≤ v) (hv1 : v < 18446744073709551616) (u0 u1 u2 u3 u4 u5 u6 u7 : Value)
    (c0 : w.cell? ⟨g, o, none⟩ = some u0) (f0 : w.frozen? ⟨g, o, none⟩ = false) (c1 : w.cell? ⟨g, o + 1, none⟩ = some u1) (f1 : w.frozen? ⟨g, o + 1, none⟩ = false) (c2 : w.cell? ⟨g, o + 2, none⟩ = some u2) (f2 : w.frozen? ⟨g, o + 2, none⟩ = false) (c3 : w.cell? ⟨g, o + 3, none⟩ = some u3) (f3 : w.frozen? ⟨g, o + 3, none⟩ = false) (c4 : w.cell? ⟨g, o + 4, none⟩ = some u4) (f4 : w.frozen? ⟨g, o + 4, none⟩ = false) (c5 : w.cell? ⟨g, o + 5, none⟩ = some u5) (f5 : w.frozen? ⟨g, o + 5, none⟩ = false) (c6 : w.cell? ⟨g, o + 6, none⟩ = some u6) (f6 : w.frozen? ⟨g, o + 6, none⟩ = false) (c7 : w.cell? ⟨g, o + 7, none⟩ = some u7) (f7 : w.frozen? ⟨g, o + 7, none⟩ = false) :
    Calls Ybad.prog 16 #[.slice (some ⟨g, o, none⟩) n c, .int .u64 v] w fun e w' => e = .returned (.tuple #[]) ∧
      w' = w.setCells g o [.int .u8 (v / 72057594037927936), .int .u8 (v / 281474976710656 % 256), .int .u8 (v / 1099511627776 % 256), .int .u8 (v / 4294967296 % 256), .int .u8 (v / 16777216 % 256), .int .u8 (v / 65536 % 256), .int .u8 (v / 256 % 256), .int .u8 (v % 256)] := by
  have q0 : 0 < n := by omega
  have q1 : (1 : Int) < (n : Int) := by omega
  have q2 : (2 : Int) < (n : Int) := by omega
  have q3 : (3 : Int) < (n : Int) := by omega
  have q4 : (4 : Int) < (n : Int) := by omega
  have q5 : (5 : Int) < (n : Int) := by omega
  have q6 : (6 : Int) < (n : Int) := by omega
  have q7 : (7 : Int) < (n : Int) := by omega
  go_enter Ybad.func16, Ybad.ntmps16
  go_wp2
  go_end0
  exact ⟨rfl, rfl⟩

#print axioms put64_any
end Go.Proofs.YbulkbrvqDoor
