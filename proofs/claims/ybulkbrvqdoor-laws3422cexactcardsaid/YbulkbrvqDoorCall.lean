/-
  The law's own walk: LawS3422CExact.
-/
import Derived.Test.YbulkbrvqDoorAddr
namespace Go.Proofs.YbulkbrvqDoor
open Go.ChangeShapes Go.WideShapes Go.ChangeAt Go.RowKit

/-- A slice of bytes, nil or not, wherever it lies: what the laws on append and copy ask. -/
def Row (w : World) (a : Option Addr) (n cap : Nat) (xs : List Int) : Prop :=
  xs.length = n ∧ (a = none → n = 0 ∧ cap = 0) ∧ ∀ x, a = some x → ∀ j u, (bs xs)[j]? = some u → w.cell? (x.add j) = some u

theorem Row.below {w w' : World} {a : Option Addr} {n cap : Nat} {xs : List Int} (h : Row w a n cap xs) (hb : Below w.heap.size w w') : Row w' a n cap xs :=
  ⟨h.1, h.2.1, fun x hx j u hu => (hb.cell (World.block_lt_of_cell? _ _ (h.2.2 x hx j u hu))).trans (h.2.2 x hx j u hu)⟩

theorem row_of_src {w : World} {v : Value} {xs : List Int} (h : Src w v xs) : ∃ a cap, v = .slice a xs.length cap ∧ Row w a xs.length cap xs := by
  rcases h with ⟨rfl, rfl⟩ | ⟨g, c, rfl, _, hc⟩
  · exact ⟨none, 0, rfl, rfl, fun _ => ⟨rfl, rfl⟩, fun x hx => by cases hx⟩
  · exact ⟨_, c, rfl, rfl, fun h => by (cases h), fun x hx => by obtain rfl := Option.some.inj hx; exact src_cells hc⟩

theorem row_str {w : World} {a : Option Addr} {n cap : Nat} {xs : List Int} (h : Row w a n cap xs) : (convert 22 9 (.slice a n cap)).run Ybad.prog w = .ok (.string (strOfNums xs)) w := by
  obtain ⟨h1, h2, h3⟩ := h
  cases a with
  | none =>
    obtain ⟨rfl, rfl⟩ := h2 rfl
    obtain rfl := List.eq_nil_of_length_eq_zero h1
    exact run_convert_bytes_nil (P := Ybad.prog) w 22 5 Ybad.underlying22 Ybad.underlying5 0 0 9 Ybad.underlying9
  | some x =>
    have hl : (loadCells x n).run Ybad.prog w = .ok (bs xs).toArray w := by
      have := run_loadCells_list (P := Ybad.prog) w x (bs xs) (h3 x rfl)
      rwa [bs_len, h1] at this
    rw [run_convert_bytes_string w 22 9 5 _ n cap Ybad.underlying22 Ybad.underlying5 Ybad.underlying9, run_bytesToString w _ n cap xs hl, foldl_push_bytes]
    simp [strOfNums, ByteArray.empty, ByteArray.emptyWithCapacity]
    rfl

theorem own_row {w : World} {base : Nat} {v : Value} {n : Nat} {xs : List Int} (h : w.ownsRow base 5 1 v n (bs xs)) : ∃ a cap, v = .slice a n cap ∧ Row w a n cap xs := by
  have hl : xs.length = n := by have := h.1; rw [bs_len] at this; omega
  rcases h.2 with ⟨rfl, rfl⟩ | ⟨g, c, cur, rfl, _⟩
  · exact ⟨none, 0, rfl, hl, fun _ => ⟨rfl, rfl⟩, fun x hx => by cases hx⟩
  · exact ⟨_, c, rfl, hl, fun e => by (cases e), fun x hx => by obtain rfl := Option.some.inj hx; exact h.cells rfl⟩

/-- THE ADDRESS THAT THE LAW BUILDS, AND WHAT AsSlice MAKES OF IT, at each kind. -/
theorem addr_call (k : Int) (hk0 : 0 ≤ k) (hk1 : k ≤ 255) (b0 b1 b2 b3 b4 b5 b6 b7 b8 b9 b10 b11 b12 b13 b14 b15 : Int) (h0 : isB b0) (h1 : isB b1) (h2 : isB b2) (h3 : isB b3) (h4 : isB b4) (h5 : isB b5) (h6 : isB b6) (h7 : isB b7) (h8 : isB b8) (h9 : isB b9) (h10 : isB b10) (h11 : isB b11) (h12 : isB b12) (h13 : isB b13) (h14 : isB b14) (h15 : isB b15) (a4 a6 : Addr) :
    ∃ (hi lo : Int) (z : Option Addr) (ips : List Int), ips.length ≤ 16 ∧
      (∀ W, Gl W a4 a6 → Calls Ybad.prog 4 #[.int .u8 k, .agg #[.int .u8 b0, .int .u8 b1, .int .u8 b2, .int .u8 b3, .int .u8 b4, .int .u8 b5, .int .u8 b6, .int .u8 b7, .int .u8 b8, .int .u8 b9, .int .u8 b10, .int .u8 b11, .int .u8 b12, .int .u8 b13, .int .u8 b14, .int .u8 b15]] W fun e w' => ∃ rv, e = .returned (.tuple #[.agg #[.int .u64 hi, .int .u64 lo, .pointer z], rv]) ∧ Src w' rv ips ∧ Below W.heap.size W w') ∧
      (∀ W, Gl W a4 a6 → Calls Ybad.prog 11 #[.agg #[.int .u64 hi, .int .u64 lo, .pointer z]] W fun e w' => ∃ v, e = .returned v ∧ Src w' v ips ∧ Below W.heap.size W w') := by
  cases e0 : (k % 3 == 0)
  · cases e1 : (k % 3 == 1)
    · refine ⟨0, 0, none, [], by simp, fun W hG => ?_, fun W hG => ?_⟩
      · refine (addr2_any k hk0 hk1 e0 e1 b0 b1 b2 b3 b4 b5 b6 b7 b8 b9 b10 b11 b12 b13 b14 b15 W).mono ?_
        rintro e w' ⟨rfl, hb⟩
        exact ⟨_, rfl, .inl ⟨rfl, rfl⟩, hb⟩
      · refine (asslice_nil 0 0 a4 a6 W hG).mono ?_
        rintro e w' ⟨rfl, hb⟩
        exact ⟨_, rfl, .inl ⟨rfl, rfl⟩, hb⟩
    · obtain ⟨p0, p1, p2, p3, p4, p5, p6, p7, p8, p9⟩ := be8_bytes h0 h1 h2 h3 h4 h5 h6 h7
      obtain ⟨q0, q1, q2, q3, q4, q5, q6, q7, q8, q9⟩ := be8_bytes h8 h9 h10 h11 h12 h13 h14 h15
      refine ⟨be8 b0 b1 b2 b3 b4 b5 b6 b7, be8 b8 b9 b10 b11 b12 b13 b14 b15, some a6, [b0, b1, b2, b3, b4, b5, b6, b7, b8, b9, b10, b11, b12, b13, b14, b15], by simp, fun W hG => addr1_any k hk0 hk1 e0 e1 b0 b1 b2 b3 b4 b5 b6 b7 b8 b9 b10 b11 b12 b13 b14 b15 h0 h1 h2 h3 h4 h5 h6 h7 h8 h9 h10 h11 h12 h13 h14 h15 a4 a6 W hG, fun W hG => ?_⟩
      have := asslice_6 (be8 b0 b1 b2 b3 b4 b5 b6 b7) (be8 b8 b9 b10 b11 b12 b13 b14 b15) p8 p9 q8 q9 a4 a6 W hG
      rw [p0, p1, p2, p3, p4, p5, p6, p7, q0, q1, q2, q3, q4, q5, q6, q7] at this
      exact this
  · obtain ⟨p0, p1, p2, p3, p4, p5⟩ := be4_bytes h0 h1 h2 h3
    refine ⟨0, be4 b0 b1 b2 b3, some a4, [b0, b1, b2, b3], by simp, fun W hG => addr0_any k hk0 hk1 e0 b0 b1 b2 b3 b4 b5 b6 b7 b8 b9 b10 b11 b12 b13 b14 b15 h0 h1 h2 h3 a4 a6 W hG, fun W hG => ?_⟩
    have := asslice_4 (be4 b0 b1 b2 b3) a4 a6 W hG
    have e3 : be4 b0 b1 b2 b3 % 256 = b3 := by omega
    rw [p0, p1, p2, e3] at this
    exact this

#print axioms addr_call
end Go.Proofs.YbulkbrvqDoor
