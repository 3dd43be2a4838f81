/-
  pageOf: the page of an index, its place there, the page's length.
-/
import Derived.Test.YbulkbsdsGreatRows
import Derived.Test.YbulkbsdsGreatShelf
import Derived.WalkKit
import Derived.ProofKit
namespace Go.Proofs.YbulkbsdsGreat
open Go.RowKit

theorem hide {p : Prop} (h : p) : Hid p := h
theorem unhide {p : Prop} (h : Hid p) : p := h

/-- The page. -/
def pgOf (i : Nat) : Nat := if i < 16 then 0 else if i < 32 then 1 else if i < 64 then 2 else if i < 128 then 3 else if i < 256 then 4 else if i < 512 then 5 else if i < 1024 then 6 else 6 + i / 1024
/-- Where it begins. -/
def stOf (p : Nat) : Nat := if p = 0 then 0 else if p = 1 then 16 else if p = 2 then 32 else if p = 3 then 64 else if p = 4 then 128 else if p = 5 then 256 else if p = 6 then 512 else (p - 6) * 1024
/-- How many it holds. -/
def lnOf (p : Nat) : Nat := if p = 0 then 16 else if p = 1 then 16 else if p = 2 then 32 else if p = 3 then 64 else if p = 4 then 128 else if p = 5 then 256 else if p = 6 then 512 else 1024
/-- The place in it. -/
def plOf (i : Nat) : Nat := i - stOf (pgOf i)

theorem page_facts (i : Nat) (h : i < 4096) : pgOf i ≤ 9 ∧ plOf i < lnOf (pgOf i) ∧ stOf (pgOf i) ≤ i := by
  unfold plOf
  have key : (i < 16 ∧ pgOf i = 0) ∨ (16 ≤ i ∧ i < 32 ∧ pgOf i = 1) ∨ (32 ≤ i ∧ i < 64 ∧ pgOf i = 2) ∨ (64 ≤ i ∧ i < 128 ∧ pgOf i = 3) ∨ (128 ≤ i ∧ i < 256 ∧ pgOf i = 4) ∨ (256 ≤ i ∧ i < 512 ∧ pgOf i = 5) ∨ (512 ≤ i ∧ i < 1024 ∧ pgOf i = 6) ∨ (1024 ≤ i ∧ i < 2048 ∧ pgOf i = 7) ∨ (2048 ≤ i ∧ i < 3072 ∧ pgOf i = 8) ∨ (3072 ≤ i ∧ pgOf i = 9) := by
    unfold pgOf
    split; · omega
    split; · omega
    split; · omega
    split; · omega
    split; · omega
    split; · omega
    split; · omega
    omega
  rcases key with ⟨h1, e⟩ | ⟨h1, h2, e⟩ | ⟨h1, h2, e⟩ | ⟨h1, h2, e⟩ | ⟨h1, h2, e⟩ | ⟨h1, h2, e⟩ | ⟨h1, h2, e⟩ | ⟨h1, h2, e⟩ | ⟨h1, h2, e⟩ | ⟨h1, e⟩ <;> rw [e] <;> simp [stOf, lnOf] <;> omega

theorem page_inj {i j : Nat} (hi : i < 4096) (hj : j < 4096) (hp : pgOf i = pgOf j) (hc : plOf i = plOf j) : i = j := by
  have h1 := (page_facts i hi).2.2
  have h2 := (page_facts j hj).2.2
  unfold plOf at hc
  rw [hp] at hc h1
  omega

theorem lnOf_le (p : Nat) : 16 ≤ lnOf p ∧ lnOf p ≤ 1024 := by
  unfold lnOf
  repeat (split; · omega)
  omega

theorem bitLen_range (i k : Nat) (h1 : 2 ^ k ≤ i) (h2 : i < 2 ^ (k + 1)) (h3 : i < 2 ^ 64) : Lib.bitLen i = k + 1 := by
  have hp : 0 < 2 ^ k := Nat.two_pow_pos k
  rw [Lib.bitLen_shift k i h1 h3]
  have : i / 2 ^ k = 1 := by
    rw [Nat.div_eq_iff hp]
    rw [Nat.pow_succ] at h2
    omega
  rw [this]
  rfl

theorem bl16 : (Lib.bitLen (16 : Int).toNat : Int) = 5 := by decide +kernel
theorem bl1024 : (Lib.bitLen (1024 : Int).toNat : Int) = 11 := by decide +kernel

theorem len_lit (x n : Int) (h0 : 0 ≤ x) (h1 : x ≤ 4096) (hb : (Lib.bitLen x.toNat : Int) = n) (w : World) : Calls Ybaz.prog 9 #[.int .u64 x] w fun e w' => e = .returned (.int .i64 n) ∧ w' = w := by
  subst hb
  exact Ybaz.bits_Len x w h0 (by omega)

set_option maxHeartbeats 1000000 in
theorem page_0 (i : Nat) (h2 : i < 16) (w : World) : Calls Ybaz.prog 6 #[.int .i64 (i : Int)] w fun e w' => e = .returned (.tuple #[.int .i64 0, .int .i64 (i : Int), .int .i64 16]) ∧ w = w' := by
  have q1 : (i : Int) < 16 := by omega
  go_enter Ybaz.func6, Ybaz.ntmps6
  go_wp2_with fail
  go_ret3
  exact ⟨rfl, rfl⟩

set_option maxHeartbeats 1000000 in
theorem page_1 (i : Nat) (h1 : 16 ≤ i) (h2 : i < 32) (w : World) : Calls Ybaz.prog 6 #[.int .i64 (i : Int)] w fun e w' => e = .returned (.tuple #[.int .i64 1, .int .i64 ((i : Int) - 16), .int .i64 16]) ∧ w = w' := by
  have hb : (Lib.bitLen (i : Int).toNat : Int) = 5 := by rw [Int.toNat_natCast, bitLen_range i 4 (by omega) (by omega) (by omega)]; rfl
  have HB := hide hb
  clear hb
  have q1 : ¬ (i : Int) < 16 := by omega
  have q2 : (i : Int) < 1024 := by omega
  go_enter Ybaz.func6, Ybaz.ntmps6
  go_wp2_with fail
  refine (len_lit (i : Int) 5 (by omega) (by omega) (unhide HB) _).mono ?_
  rintro e w' ⟨rfl, rfl⟩
  go_wp2_with fail
  refine (len_lit (i : Int) 5 (by omega) (by omega) (unhide HB) _).mono ?_
  rintro e w' ⟨rfl, rfl⟩
  go_wp2_with fail
  refine (len_lit 16 5 (by omega) (by omega) bl16 _).mono ?_
  rintro e w' ⟨rfl, rfl⟩
  go_wp2_with fail
  go_ret3
  exact ⟨rfl, rfl⟩

set_option maxHeartbeats 1000000 in
theorem page_2 (i : Nat) (h1 : 32 ≤ i) (h2 : i < 64) (w : World) : Calls Ybaz.prog 6 #[.int .i64 (i : Int)] w fun e w' => e = .returned (.tuple #[.int .i64 2, .int .i64 ((i : Int) - 32), .int .i64 32]) ∧ w = w' := by
  have hb : (Lib.bitLen (i : Int).toNat : Int) = 6 := by rw [Int.toNat_natCast, bitLen_range i 5 (by omega) (by omega) (by omega)]; rfl
  have HB := hide hb
  clear hb
  have q1 : ¬ (i : Int) < 16 := by omega
  have q2 : (i : Int) < 1024 := by omega
  go_enter Ybaz.func6, Ybaz.ntmps6
  go_wp2_with fail
  refine (len_lit (i : Int) 6 (by omega) (by omega) (unhide HB) _).mono ?_
  rintro e w' ⟨rfl, rfl⟩
  go_wp2_with fail
  refine (len_lit (i : Int) 6 (by omega) (by omega) (unhide HB) _).mono ?_
  rintro e w' ⟨rfl, rfl⟩
  go_wp2_with fail
  refine (len_lit 16 5 (by omega) (by omega) bl16 _).mono ?_
  rintro e w' ⟨rfl, rfl⟩
  go_wp2_with fail
  go_ret3
  exact ⟨rfl, rfl⟩

set_option maxHeartbeats 1000000 in
theorem page_3 (i : Nat) (h1 : 64 ≤ i) (h2 : i < 128) (w : World) : Calls Ybaz.prog 6 #[.int .i64 (i : Int)] w fun e w' => e = .returned (.tuple #[.int .i64 3, .int .i64 ((i : Int) - 64), .int .i64 64]) ∧ w = w' := by
  have hb : (Lib.bitLen (i : Int).toNat : Int) = 7 := by rw [Int.toNat_natCast, bitLen_range i 6 (by omega) (by omega) (by omega)]; rfl
  have HB := hide hb
  clear hb
  have q1 : ¬ (i : Int) < 16 := by omega
  have q2 : (i : Int) < 1024 := by omega
  go_enter Ybaz.func6, Ybaz.ntmps6
  go_wp2_with fail
  refine (len_lit (i : Int) 7 (by omega) (by omega) (unhide HB) _).mono ?_
  rintro e w' ⟨rfl, rfl⟩
  go_wp2_with fail
  refine (len_lit (i : Int) 7 (by omega) (by omega) (unhide HB) _).mono ?_
  rintro e w' ⟨rfl, rfl⟩
  go_wp2_with fail
  refine (len_lit 16 5 (by omega) (by omega) bl16 _).mono ?_
  rintro e w' ⟨rfl, rfl⟩
  go_wp2_with fail
  go_ret3
  exact ⟨rfl, rfl⟩

set_option maxHeartbeats 1000000 in
theorem page_4 (i : Nat) (h1 : 128 ≤ i) (h2 : i < 256) (w : World) : Calls Ybaz.prog 6 #[.int .i64 (i : Int)] w fun e w' => e = .returned (.tuple #[.int .i64 4, .int .i64 ((i : Int) - 128), .int .i64 128]) ∧ w = w' := by
  have hb : (Lib.bitLen (i : Int).toNat : Int) = 8 := by rw [Int.toNat_natCast, bitLen_range i 7 (by omega) (by omega) (by omega)]; rfl
  have HB := hide hb
  clear hb
  have q1 : ¬ (i : Int) < 16 := by omega
  have q2 : (i : Int) < 1024 := by omega
  go_enter Ybaz.func6, Ybaz.ntmps6
  go_wp2_with fail
  refine (len_lit (i : Int) 8 (by omega) (by omega) (unhide HB) _).mono ?_
  rintro e w' ⟨rfl, rfl⟩
  go_wp2_with fail
  refine (len_lit (i : Int) 8 (by omega) (by omega) (unhide HB) _).mono ?_
  rintro e w' ⟨rfl, rfl⟩
  go_wp2_with fail
  refine (len_lit 16 5 (by omega) (by omega) bl16 _).mono ?_
  rintro e w' ⟨rfl, rfl⟩
  go_wp2_with fail
  go_ret3
  exact ⟨rfl, rfl⟩

set_option maxHeartbeats 1000000 in
theorem page_5 (i : Nat) (h1 : 256 ≤ i) (h2 : i < 512) (w : World) : Calls Ybaz.prog 6 #[.int .i64 (i : Int)] w fun e w' => e = .returned (.tuple #[.int .i64 5, .int .i64 ((i : Int) - 256), .int .i64 256]) ∧ w = w' := by
  have hb : (Lib.bitLen (i : Int).toNat : Int) = 9 := by rw [Int.toNat_natCast, bitLen_range i 8 (by omega) (by omega) (by omega)]; rfl
  have HB := hide hb
  clear hb
  have q1 : ¬ (i : Int) < 16 := by omega
  have q2 : (i : Int) < 1024 := by omega
  go_enter Ybaz.func6, Ybaz.ntmps6
  go_wp2_with fail
  refine (len_lit (i : Int) 9 (by omega) (by omega) (unhide HB) _).mono ?_
  rintro e w' ⟨rfl, rfl⟩
  go_wp2_with fail
  refine (len_lit (i : Int) 9 (by omega) (by omega) (unhide HB) _).mono ?_
  rintro e w' ⟨rfl, rfl⟩
  go_wp2_with fail
  refine (len_lit 16 5 (by omega) (by omega) bl16 _).mono ?_
  rintro e w' ⟨rfl, rfl⟩
  go_wp2_with fail
  go_ret3
  exact ⟨rfl, rfl⟩

set_option maxHeartbeats 1000000 in
theorem page_6 (i : Nat) (h1 : 512 ≤ i) (h2 : i < 1024) (w : World) : Calls Ybaz.prog 6 #[.int .i64 (i : Int)] w fun e w' => e = .returned (.tuple #[.int .i64 6, .int .i64 ((i : Int) - 512), .int .i64 512]) ∧ w = w' := by
  have hb : (Lib.bitLen (i : Int).toNat : Int) = 10 := by rw [Int.toNat_natCast, bitLen_range i 9 (by omega) (by omega) (by omega)]; rfl
  have HB := hide hb
  clear hb
  have q1 : ¬ (i : Int) < 16 := by omega
  have q2 : (i : Int) < 1024 := by omega
  go_enter Ybaz.func6, Ybaz.ntmps6
  go_wp2_with fail
  refine (len_lit (i : Int) 10 (by omega) (by omega) (unhide HB) _).mono ?_
  rintro e w' ⟨rfl, rfl⟩
  go_wp2_with fail
  refine (len_lit (i : Int) 10 (by omega) (by omega) (unhide HB) _).mono ?_
  rintro e w' ⟨rfl, rfl⟩
  go_wp2_with fail
  refine (len_lit 16 5 (by omega) (by omega) bl16 _).mono ?_
  rintro e w' ⟨rfl, rfl⟩
  go_wp2_with fail
  go_ret3
  exact ⟨rfl, rfl⟩

set_option maxHeartbeats 1000000 in
theorem page_7 (i : Nat) (h1 : 1024 ≤ i) (h2 : i < 4096) (w : World) : Calls Ybaz.prog 6 #[.int .i64 (i : Int)] w fun e w' => e = .returned (.tuple #[.int .i64 (7 + (i : Int) / 1024 - 1), .int .i64 ((i : Int) % 1024), .int .i64 1024]) ∧ w = w' := by
  have q1 : ¬ (i : Int) < 16 := by omega
  have q2 : ¬ (i : Int) < 1024 := by omega
  go_enter Ybaz.func6, Ybaz.ntmps6
  go_wp2_with fail
  refine (len_lit 1024 11 (by omega) (by omega) bl1024 _).mono ?_
  rintro e w' ⟨rfl, rfl⟩
  go_wp2_with fail
  refine (len_lit 16 5 (by omega) (by omega) bl16 _).mono ?_
  rintro e w' ⟨rfl, rfl⟩
  go_wp2_with fail
  go_ret3
  exact ⟨rfl, rfl⟩

theorem tuple3 {a b c x y z : Int} (h1 : a = x) (h2 : b = y) (h3 : c = z) : Ending.returned (.tuple #[.int .i64 a, .int .i64 b, .int .i64 c]) = .returned (.tuple #[.int .i64 x, .int .i64 y, .int .i64 z]) := by rw [h1, h2, h3]

/-- pageOf. -/
theorem page_any (i : Nat) (h : i < 4096) (w : World) : Calls Ybaz.prog 6 #[.int .i64 (i : Int)] w fun e w' => e = .returned (.tuple #[.int .i64 (pgOf i : Int), .int .i64 (plOf i : Int), .int .i64 (lnOf (pgOf i) : Int)]) ∧ w = w' := by
  by_cases c0 : i < 16
  · have e : pgOf i = 0 := by unfold pgOf; rw [if_pos c0]
    refine (page_0 i c0 w).mono ?_
    rintro e' w' ⟨rfl, hw⟩
    exact ⟨tuple3 (by rw [e]; rfl) (by unfold plOf; rw [e]; simp [stOf]) (by rw [e]; rfl), hw⟩
  by_cases c1 : i < 32
  · have e : pgOf i = 1 := by unfold pgOf; rw [if_neg c0, if_pos c1]
    refine (page_1 i (by omega) c1 w).mono ?_
    rintro e' w' ⟨rfl, hw⟩
    exact ⟨tuple3 (by rw [e]; rfl) (by unfold plOf; rw [e]; simp [stOf]; omega) (by rw [e]; rfl), hw⟩
  by_cases c2 : i < 64
  · have e : pgOf i = 2 := by unfold pgOf; rw [if_neg c0, if_neg c1, if_pos c2]
    refine (page_2 i (by omega) c2 w).mono ?_
    rintro e' w' ⟨rfl, hw⟩
    exact ⟨tuple3 (by rw [e]; rfl) (by unfold plOf; rw [e]; simp [stOf]; omega) (by rw [e]; rfl), hw⟩
  by_cases c3 : i < 128
  · have e : pgOf i = 3 := by unfold pgOf; rw [if_neg c0, if_neg c1, if_neg c2, if_pos c3]
    refine (page_3 i (by omega) c3 w).mono ?_
    rintro e' w' ⟨rfl, hw⟩
    exact ⟨tuple3 (by rw [e]; rfl) (by unfold plOf; rw [e]; simp [stOf]; omega) (by rw [e]; rfl), hw⟩
  by_cases c4 : i < 256
  · have e : pgOf i = 4 := by unfold pgOf; rw [if_neg c0, if_neg c1, if_neg c2, if_neg c3, if_pos c4]
    refine (page_4 i (by omega) c4 w).mono ?_
    rintro e' w' ⟨rfl, hw⟩
    exact ⟨tuple3 (by rw [e]; rfl) (by unfold plOf; rw [e]; simp [stOf]; omega) (by rw [e]; rfl), hw⟩
  by_cases c5 : i < 512
  · have e : pgOf i = 5 := by unfold pgOf; rw [if_neg c0, if_neg c1, if_neg c2, if_neg c3, if_neg c4, if_pos c5]
    refine (page_5 i (by omega) c5 w).mono ?_
    rintro e' w' ⟨rfl, hw⟩
    exact ⟨tuple3 (by rw [e]; rfl) (by unfold plOf; rw [e]; simp [stOf]; omega) (by rw [e]; rfl), hw⟩
  by_cases c6 : i < 1024
  · have e : pgOf i = 6 := by unfold pgOf; rw [if_neg c0, if_neg c1, if_neg c2, if_neg c3, if_neg c4, if_neg c5, if_pos c6]
    refine (page_6 i (by omega) c6 w).mono ?_
    rintro e' w' ⟨rfl, hw⟩
    exact ⟨tuple3 (by rw [e]; rfl) (by unfold plOf; rw [e]; simp [stOf]; omega) (by rw [e]; rfl), hw⟩
  · have e : pgOf i = 6 + i / 1024 := by unfold pgOf; rw [if_neg c0, if_neg c1, if_neg c2, if_neg c3, if_neg c4, if_neg c5, if_neg c6]
    refine (page_7 i (by omega) h w).mono ?_
    rintro e' w' ⟨rfl, hw⟩
    have hs : stOf (6 + i / 1024) = (i / 1024) * 1024 := by
      unfold stOf
      rw [if_neg (by omega), if_neg (by omega), if_neg (by omega), if_neg (by omega), if_neg (by omega), if_neg (by omega), if_neg (by omega)]
      omega
    have hl : lnOf (6 + i / 1024) = 1024 := by
      unfold lnOf
      rw [if_neg (by omega), if_neg (by omega), if_neg (by omega), if_neg (by omega), if_neg (by omega), if_neg (by omega), if_neg (by omega)]
    exact ⟨tuple3 (by rw [e]; omega) (by unfold plOf; rw [e, hs]; omega) (by rw [e, hl]; rfl), hw⟩

#print axioms page_any
end Go.Proofs.YbulkbsdsGreat
