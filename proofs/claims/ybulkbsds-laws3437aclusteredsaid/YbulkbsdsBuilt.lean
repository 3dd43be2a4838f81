/-
  What the law's own loops build: lists[i], the sums of deltas[i].
-/
import Derived.Test.YbulkbsdsIterC
import Derived.Test.YbulkbsdsAll
import Derived.OneCell
namespace Go.Proofs.Ybulkbsds
open Go.RowKit Go.Shelf

attribute [local go_sem] Oper.semAt_some

theorem wpListIn_make_row {F : Fence} {n : Nat} {P : Program} (w : World) {ops : Array Oper} {rest : List Oper} {o : Oper} {a : Act} {Q : Exit → Act → World → Prop}
    (hg : o.guard = none) (l c : Operand) (t : TypeId) (hop : o.op = Op.makeSlice t l c)
    (base : Nat) (e : TypeId) (i : TypeInfo) (z : Value) (size : Nat) (h1 : P.underlying t = some (.slice e)) (h2 : P.info? e = some i) (h3 : i.zero = some z) (h4 : i.size = size)
    (kl kc : IntKind) (L C : Int) (m : Nat) (hl : a.eval l = .int kl L) (hc : a.eval c = .int kc C) (hL : L = (m : Int)) (hC : C = (m : Int)) (b2 : i.bytes * m ≤ 281474976710656) (b3 : m ≤ maxLen) (b4 : base ≤ w.heap.size)
    (hK : ∀ w', w'.ownsRow base e size (.slice (some ⟨w.heap.size, 0, none⟩) m m) m (madeCells z.cells (m * size)).toList → w.grownBy w' none → wpListIn F n P ops Q rest (a.put o.dst (.slice (some ⟨w.heap.size, 0, none⟩) m m)) w') :
    wpListIn F n P ops Q (o :: rest) a w := by
  refine wpListIn_plain hg fun K hK' => ?_
  obtain ⟨w', hrun, r1, r2⟩ := run_make_full (P := P) w base t e i z size h1 h2 h3 h4 kl kc m b2 b3 b4
  subst hL
  subst hC
  unfold Oper.wpIn
  refine ⟨?_, ?_⟩
  · simp [Oper.about, hop]
  · rw [Oper.semAt_plain F _ _ (by rw [hop]; intro c hc'; cases hc')]
    simp [execOp, hop, hl, hc, hrun, Result.andThen]
    exact hK' _ _ (hK w' r1 r2)

/-- The sum of the first k. -/
def cur (z : Nat → Int) : Nat → Int
  | 0 => -64
  | k + 1 => cur z k + (z k + 1)

/-- A list of the sums. -/
def sums (z : Nat → Int) (n : Nat) : List Int := upto (fun i => cur z (i + 1)) n

theorem sums_length (z : Nat → Int) (n : Nat) : (sums z n).length = n := upto_length _ _
theorem sums_succ (z : Nat → Int) (n : Nat) : sums z (n + 1) = sums z n ++ [cur z (n + 1)] := upto_succ _ _
theorem sums_get (z : Nat → Int) (n i : Nat) (h : i < (sums z n).length) : (sums z n)[i] = cur z (i + 1) := by simp [sums, upto]

theorem cur_bounds {z : Nat → Int} {n : Nat} (hz : ∀ c, c < n → 0 ≤ z c ∧ z c ≤ 255) : ∀ k, k ≤ n → -64 + (k : Int) ≤ cur z k ∧ cur z k ≤ -64 + 256 * (k : Int) := by
  intro k
  induction k with
  | zero => intro _; simp [cur]
  | succ k ih =>
    intro hk
    have h1 := ih (by omega)
    have h2 := hz k (by omega)
    simp only [cur]
    omega

theorem cur_lt {z : Nat → Int} {n : Nat} (hz : ∀ c, c < n → 0 ≤ z c ∧ z c ≤ 255) (i : Nat) : ∀ j, i < j → j ≤ n → cur z i < cur z j := by
  intro j
  induction j with
  | zero => intro h; omega
  | succ j ih =>
    intro h1 h2
    have hb := hz j (by omega)
    have e : cur z (j + 1) = cur z j + (z j + 1) := rfl
    rcases Nat.lt_or_ge i j with h | h
    · have := ih h (by omega); omega
    · obtain rfl : i = j := by omega
      omega

/-- What a row of the lists is known by. -/
structure Good (xs : List Int) : Prop where
  len : xs.length ≤ 1024
  sort : ∀ i j (hi : i < j) (hj : j < xs.length), xs[i] < xs[j]
  bound : ∀ i (h : i < xs.length), -64 ≤ xs[i] ∧ xs[i] ≤ 1000000

theorem good_sums {z : Nat → Int} {n : Nat} (hn : n ≤ 1024) (hz : ∀ c, c < n → 0 ≤ z c ∧ z c ≤ 255) : Good (sums z n) := by
  refine ⟨by rw [sums_length]; exact hn, fun i j hi hj => ?_, fun i h => ?_⟩
  · rw [sums_get, sums_get]
    rw [sums_length] at hj
    exact cur_lt hz _ _ (by omega) (by omega)
  · rw [sums_get]
    rw [sums_length] at h
    have := cur_bounds hz (i + 1) (by omega)
    omega

theorem good_nil : Good [] := ⟨by simp, fun _ _ _ hj => by simp at hj, fun _ h => by simp at h⟩

/-- What deltas reads as. -/
def Deltas (w : World) (ao : Option Addr) (len : Nat) (A : Nat → Option Addr) (Ln C : Nat → Nat) (z : Nat → Nat → Int) : Prop :=
  ∀ r, r < len → ∃ a, ao = some a ∧ w.cell? (a.add r) = some (.slice (A r) (Ln r) (C r)) ∧ ∀ c, c < Ln r → ∃ a', A r = some a' ∧ w.cell? (a'.add c) = some (.int .u8 (z r c)) ∧ 0 ≤ z r c ∧ z r c ≤ 255

def i32s (xs : List Int) : List Value := xs.map (Value.int .i32)

/-- r rows are built. -/
structure Built (w wr : World) (L r : Nat) (Ln : Nat → Nat) (z : Nat → Nat → Int) (vs : List Value) : Prop where
  lists : wr.ownsRow w.heap.size 51 1 (.slice (some ⟨w.heap.size, 0, none⟩) L L) L vs
  below : Below w.heap.size w wr
  rows : ∀ q, q < r → ∃ u, vs[q]? = some u ∧ wr.ownsRow (w.heap.size + 1) 21 1 u (Ln q) (i32s (sums (z q) (Ln q)))
  rest : ∀ q, r ≤ q → q < L → vs[q]? = some (.slice none 0 0)

/-- r rows are built, and k numbers of the next. -/
structure Mid (w wr : World) (L r S k : Nat) (Ln : Nat → Nat) (z : Nat → Nat → Int) (vs : List Value) (v : Value) : Prop where
  lists : wr.ownsRow w.heap.size 51 1 (.slice (some ⟨w.heap.size, 0, none⟩) L L) L vs
  below : Below w.heap.size w wr
  big : w.heap.size < S
  big' : S ≤ wr.heap.size
  rows : ∀ q, q < r → ∃ u, vs[q]? = some u ∧ wr.ownsRow (w.heap.size + 1) 21 1 u (Ln q) (i32s (sums (z q) (Ln q))) ∧ ∀ b, u.ownBlock = some b → b < S
  here : vs[r]? = some v
  row : wr.ownsRow S 21 1 v k (i32s (sums (z r) k))
  rest : ∀ q, r < q → q < L → vs[q]? = some (.slice none 0 0)

theorem own_lt {w : World} {base : Nat} {e : TypeId} {size : Nat} {v : Value} {n : Nat} {xs : List Value} (h : w.ownsRow base e size v n xs) : ∀ b, v.ownBlock = some b → base ≤ b ∧ b < w.heap.size := by
  intro b hb
  rcases h.2 with ⟨rfl, _⟩ | ⟨g, cap, cur, rfl, hg, hh, _⟩
  · simp [Value.ownBlock] at hb
  · obtain rfl : g = b := by simpa [Value.ownBlock] using hb
    exact ⟨hg, (Array.getElem?_eq_some_iff.1 hh).1⟩

theorem Built.mid {w wr : World} {L r : Nat} {Ln : Nat → Nat} {z : Nat → Nat → Int} {vs : List Value} (h : Built w wr L r Ln z vs) (hr : r < L) : Mid w wr L r wr.heap.size 0 Ln z vs (.slice none 0 0) :=
  ⟨h.lists, h.below, (own_lt h.lists _ rfl).2, Nat.le_refl _, fun q hq => by obtain ⟨u, h1, h2⟩ := h.rows q hq; exact ⟨u, h1, h2, fun b hb => (own_lt h2 b hb).2⟩,
    h.rest r (Nat.le_refl _) hr, World.ownsRow_nil _ _ _ _, fun q h1 h2 => h.rest q (by omega) h2⟩

theorem Mid.built {w wr : World} {L r S : Nat} {Ln : Nat → Nat} {z : Nat → Nat → Int} {vs : List Value} {v : Value} (h : Mid w wr L r S (Ln r) Ln z vs v) : Built w wr L (r + 1) Ln z vs :=
  ⟨h.lists, h.below, fun q hq => by
    rcases Nat.lt_or_ge q r with h' | h'
    · obtain ⟨u, h1, h2, _⟩ := h.rows q h'; exact ⟨u, h1, h2⟩
    · obtain rfl : q = r := by omega
      exact ⟨v, h.here, own_mono h.row (by have := h.big; omega)⟩,
    fun q h1 h2 => h.rest q (by omega) h2⟩

theorem Mid.cell {w wr : World} {L r S k : Nat} {Ln : Nat → Nat} {z : Nat → Nat → Int} {vs : List Value} {v : Value} (h : Mid w wr L r S k Ln z vs v) (hr : r < L) : wr.cell? ⟨w.heap.size, r, none⟩ = some v := by
  rw [h.lists.cellAt r (by omega), h.here]

/-- The next number. -/
theorem Mid.step {w wr w1 : World} {L r S k : Nat} {Ln : Nat → Nat} {z : Nat → Nat → Int} {vs : List Value} {v v' : Value} {tmp : Obj} (h : Mid w wr L r S k Ln z vs v) (hr : r < L)
    (hown' : w1.ownsRow S 21 1 v' (k + 1) (i32s (sums (z r) k) ++ [.int .i32 (cur (z r) (k + 1))])) (hgrow : (wr.alloc tmp).grownBy w1 v.ownBlock) :
    w1.cell? ⟨w.heap.size, r, none⟩ = some v ∧ w1.frozen? ⟨w.heap.size, r, none⟩ = false ∧ Mid w (w1.setCell ⟨w.heap.size, r, none⟩ v') L r S (k + 1) Ln z (vs.set r v') v' := by
  have hb := h.big
  have hb' := h.big'
  have hvb : ∀ b, v.ownBlock = some b → S ≤ b := fun b e => (own_lt h.row b e).1
  have hl1 : w1.ownsRow w.heap.size 51 1 (.slice (some ⟨w.heap.size, 0, none⟩) L L) L vs := (h.lists.alloc tmp).kept hgrow (.inr (fun e => by have := hvb w.heap.size e.symm; omega))
  have hst := hl1.stored r v'
  have hlen : vs.length = L := by have := h.lists.1; omega
  refine ⟨by rw [hl1.cellAt r (by omega), h.here], hl1.frozenAt r, hst.1, ?_, hb, ?_, ?_, ?_, ?_, ?_⟩
  · exact ((h.below.alloc h.below.size tmp).grown hgrow (by have := h.below.size; simp; omega) (fun j ej => by have := hvb j ej; omega)).setCell (p := ⟨w.heap.size, r, none⟩) (Nat.le_refl _) v'
  · have h1 := hst.2.size
    have h2 := hgrow.size
    simp at h2
    omega
  · intro q hq
    obtain ⟨u, h1, h2, h3⟩ := h.rows q hq
    refine ⟨u, ?_, ?_, h3⟩
    · rw [List.getElem?_set_ne (by omega)]; exact h1
    · have hu : ∀ b, u.ownBlock = some b → w.heap.size + 1 ≤ b := fun b e => (own_lt h2 b e).1
      refine ownsRow_setCell_other ((h2.alloc tmp).kept hgrow ?_) (fun e => by have := hu _ e; simp at this; omega) v'
      cases hu' : u.ownBlock with
      | none => exact .inl rfl
      | some b =>
        refine .inr (fun e => ?_)
        have := hvb b e.symm
        have := h3 b hu'
        omega
  · rw [List.getElem?_set_self (by omega)]
  · have hn : v'.ownBlock ≠ some w.heap.size := fun e => by have := (own_lt hown' _ e).1; omega
    rw [sums_succ]
    have := ownsRow_setCell_other hown' (a := ⟨w.heap.size, r, none⟩) hn v'
    simpa [i32s] using this
  · intro q h1 h2
    rw [List.getElem?_set_ne (by omega)]
    exact h.rest q h1 h2

theorem own_row32 {w : World} {base N g : Nat} {v : Value} {n : Nat} {xs : List Int} (h : w.ownsRow base 21 1 v n (i32s xs)) (hN : w.heap.size ≤ N) (hg : w.heap.size ≤ g) : Row32 w N g v xs := by
  have hn : xs.length = n := by have := h.1; simpa [i32s] using this
  subst hn
  rcases h.2 with ⟨rfl, h0⟩ | ⟨b, cap, cur, rfl, _, hh, h1, h2, _⟩
  · exact .inl ⟨List.length_eq_zero_iff.1 h0, rfl⟩
  · have hlt := (Array.getElem?_eq_some_iff.1 hh).1
    refine .inr ⟨b, cap, rfl, h1, h2, by omega, by omega, fun i hi => ?_⟩
    rw [h.cellAt i (by omega)]
    simp [i32s, hi]

/-- The k-th list, when all are built. -/
theorem Built.pick {w wr : World} {L len : Nat} {Ln : Nat → Nat} {z : Nat → Nat → Int} {vs : List Value} (h : Built w wr L len Ln z vs) {k : Nat} (hk : k < L) (hL : ∀ r, r < len → Ln r ≤ 1024) (hz : ∀ r, r < len → ∀ c, c < Ln r → 0 ≤ z r c ∧ z r c ≤ 255) :
    ∃ v xs, wr.cell? ⟨w.heap.size, k, none⟩ = some v ∧ Good xs ∧ ∀ N g, wr.heap.size ≤ N → wr.heap.size ≤ g → Row32 wr N g v xs := by
  have hc := h.lists.cellAt k (by omega)
  rcases Nat.lt_or_ge k len with h' | h'
  · obtain ⟨u, h1, h2⟩ := h.rows k h'
    exact ⟨u, _, hc.trans h1, good_sums (hL k h') (hz k h'), fun N g hN hg => own_row32 h2 hN hg⟩
  · exact ⟨_, [], hc.trans (h.rest k h' hk), good_nil, fun N g _ _ => .inl ⟨rfl, rfl⟩⟩

/-- What want is when j have been looked at. -/
def wants (fr : Int) (lm : Nat) (xs : List Int) (j : Nat) : List Int := (from_ fr (xs.take j)).take lm

theorem wants_all (fr : Int) (lm : Nat) (xs : List Int) : wants fr lm xs xs.length = (from_ fr xs).take lm := by simp [wants]
theorem from_succ (fr : Int) (xs : List Int) (j : Nat) (h : j < xs.length) : from_ fr (xs.take (j + 1)) = from_ fr (xs.take j) ++ (if fr ≤ xs[j] then [xs[j]] else []) := by
  unfold from_
  rw [List.take_add_one, List.getElem?_eq_getElem h, List.filter_append]
  congr 1
  by_cases hf : fr ≤ xs[j] <;> simp [hf]
theorem wants_no (fr : Int) (lm : Nat) (xs : List Int) (j : Nat) (h : j < xs.length) (hf : ¬ fr ≤ xs[j]) : wants fr lm xs (j + 1) = wants fr lm xs j := by
  unfold wants; rw [from_succ fr xs j h, if_neg hf, List.append_nil]
theorem wants_full (fr : Int) (lm : Nat) (xs : List Int) (j : Nat) (h : j < xs.length) (hf : ¬ (wants fr lm xs j).length < lm) : wants fr lm xs (j + 1) = wants fr lm xs j := by
  unfold wants at *
  rw [List.length_take] at hf
  rw [from_succ fr xs j h, List.take_append_of_le_length (by omega)]
theorem wants_yes (fr : Int) (lm : Nat) (xs : List Int) (j : Nat) (h : j < xs.length) (hf : fr ≤ xs[j]) (hl : (wants fr lm xs j).length < lm) : wants fr lm xs (j + 1) = wants fr lm xs j ++ [xs[j]] := by
  unfold wants at *
  rw [List.length_take] at hl
  have h1 : (from_ fr (xs.take j)).length < lm := by omega
  rw [from_succ fr xs j h, if_pos hf]
  generalize from_ fr (xs.take j) = F at *
  rw [List.take_of_length_le (by simp; omega), List.take_of_length_le (by omega)]
theorem wants_len (fr : Int) (lm : Nat) (xs : List Int) (j : Nat) : (wants fr lm xs j).length ≤ xs.length := by
  unfold wants from_
  rw [List.length_take]
  have h1 := List.length_filter_le (fun x => decide (fr ≤ x)) (xs.take j)
  have h2 : (xs.take j).length ≤ xs.length := by rw [List.length_take]; omega
  omega
theorem from_len (fr : Int) (xs : List Int) : (from_ fr xs).length ≤ xs.length := List.length_filter_le _ _

#print axioms Built.pick
#print axioms Mid.step
end Go.Proofs.Ybulkbsds
