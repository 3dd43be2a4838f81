/-
  The pages of a paged array, as they lie in memory: what lengthens them, makes one, writes into one. No walk here.
-/
import Derived.Test.YbulkbsdsGreatZeros
import Derived.Lib.SliceRun
import Derived.OneCell
namespace Go.Proofs.YbulkbsdsGreat
open Go.RowKit

/-- What the cell of a page holds. -/
def pv (p : Nat) : Option Nat → Value
  | none => .slice none 0 0
  | some b => .slice (some ⟨b, 0, none⟩) (lnOf p) (lnOf p)

/-- The pages of a paged array, as they lie: f p: the block of page p. -/
structure Paged (w : World) (E O : Nat) (v : Value) (vs : List Value) (f : Nat → Option Nat) : Prop where
  here : w.cell? ⟨E, O, none⟩ = some v
  free : w.frozen? ⟨E, O, none⟩ = false
  row : w.ownsRow (E + 1) 48 1 v vs.length vs
  vals : ∀ p, p < vs.length → vs[p]? = some (pv p (f p))
  out : ∀ p, vs.length ≤ p → f p = none
  pages : ∀ p b, f p = some b → E < b ∧ ∃ cur, w.heap[b]? = some (.cells cur 85 (0, 0)) ∧ cur.size = lnOf p
  apart : ∀ p q b, f p = some b → f q = some b → p = q
  few : vs.length ≤ 10

theorem own_lt {w : World} {base : Nat} {e : TypeId} {size : Nat} {v : Value} {n : Nat} {xs : List Value} (h : w.ownsRow base e size v n xs) : ∀ b, v.ownBlock = some b → base ≤ b ∧ ∃ cur, w.heap[b]? = some (.cells cur e (0, 0)) := by
  intro b hb
  rcases h.2 with ⟨rfl, _⟩ | ⟨g, cap, cur, rfl, hg, hh, _⟩
  · simp [Value.ownBlock] at hb
  · obtain rfl : g = b := by simpa [Value.ownBlock] using hb
    exact ⟨hg, cur, hh⟩

section
variable {w : World} {E O : Nat} {v : Value} {vs : List Value} {f : Nat → Option Nat}

theorem Paged.cellAt (h : Paged w E O v vs f) {p : Nat} (hp : p < vs.length) :
    ∃ g cap, v = .slice (some ⟨g, 0, none⟩) vs.length cap ∧ w.cell? ⟨g, p, none⟩ = some (pv p (f p)) ∧ w.frozen? ⟨g, p, none⟩ = false ∧ E < g ∧ g < w.heap.size := by
  obtain ⟨g, cap, e, h1, h2⟩ := h.row.form (by omega)
  refine ⟨g, cap, e, ?_⟩
  have := h.row
  rw [e] at this
  exact ⟨by rw [this.cellAt p (by omega), h.vals p hp], this.frozenAt p, h1, h2⟩

theorem Paged.lt (h : Paged w E O v vs f) : E < w.heap.size := World.block_lt_of_cell? w ⟨E, O, none⟩ h.here

/-- A page's block is not the row's. -/
theorem Paged.not_row (h : Paged w E O v vs f) {p b : Nat} (hb : f p = some b) : v.ownBlock ≠ some b := fun e => by
  obtain ⟨_, cur, h1⟩ := own_lt h.row b e
  obtain ⟨_, cur', h2, _⟩ := h.pages p b hb
  rw [h1] at h2
  simp at h2

theorem Paged.not_E (h : Paged w E O v vs f) : v.ownBlock ≠ some E := fun e => by
  have := (own_lt h.row E e).1
  omega

theorem Paged.drew (h : Paged w E O v vs f) : Paged w.drew E O v vs f := ⟨h.here, h.free, h.row.drew, h.vals, h.out, h.pages, h.apart, h.few⟩

/-- The pages are lengthened. -/
theorem Paged.grown (h : Paged w E O v vs f) {w1 : World} {v' : Value} {k N : Nat} (hgrow : w.grownBy w1 v.ownBlock) (hN : vs.length + k = N) (hN' : N ≤ 10) (hown : w1.ownsRow (E + 1) 48 1 v' N (vs ++ List.replicate k (.slice none 0 0))) :
    Paged (w1.setCell ⟨E, O, none⟩ v') E O v' (vs ++ List.replicate k (.slice none 0 0)) f ∧ (∀ q b, f q = some b → (w1.setCell ⟨E, O, none⟩ v').heap[b]? = w.heap[b]?) ∧ Below E w (w1.setCell ⟨E, O, none⟩ v') := by
  have hlen : (vs ++ List.replicate k (Value.slice none 0 0)).length = N := by simp; omega
  have hE := h.lt
  have hbl : ∀ b, b < w.heap.size → v.ownBlock ≠ some b → b ≠ E → (w1.setCell ⟨E, O, none⟩ v').heap[b]? = w.heap[b]? := fun b h1 h2 h3 => by
    rw [Below.heap_setCell _ _ _ _ h3]; exact hgrow.block b h1 (fun e => h2 e.symm)
  have hpg : ∀ q b, f q = some b → (w1.setCell ⟨E, O, none⟩ v').heap[b]? = w.heap[b]? := fun q b hb => by
    obtain ⟨h1, cur, h2, _⟩ := h.pages q b hb
    exact hbl b (Array.getElem?_eq_some_iff.1 h2).1 (h.not_row hb) (by omega)
  have hc1 : w1.cell? ⟨E, O, none⟩ = some v := (hgrow.cell_far ⟨E, O, none⟩ hE (fun e => h.not_E e.symm)).trans h.here
  have hf1 : w1.frozen? ⟨E, O, none⟩ = false := (hgrow.frozen_far ⟨E, O, none⟩ hE (fun e => h.not_E e.symm)).trans h.free
  refine ⟨⟨World.cell?_setCell_same' w1 _ v' (by rw [hc1]; rfl), by simpa using hf1, ?_, ?_, ?_, ?_, h.apart, by omega⟩, hpg, ?_⟩
  · rw [hlen]
    have hn : v'.ownBlock ≠ some E := fun e => by have := (own_lt hown E e).1; omega
    exact ownsRow_setCell_other hown hn v'
  · intro p hp
    rw [hlen] at hp
    rcases Nat.lt_or_ge p vs.length with h' | h'
    · rw [List.getElem?_append_left h']; exact h.vals p h'
    · rw [List.getElem?_append_right h', h.out p h']
      rw [List.getElem?_replicate, if_pos (by omega)]
      rfl
  · intro p hp
    exact h.out p (by omega)
  · intro p b hb
    obtain ⟨h1, cur, h2, h3⟩ := h.pages p b hb
    exact ⟨h1, cur, (hpg p b hb).trans h2, h3⟩
  · refine ⟨hgrow.os, hgrow.tape, hgrow.output, ?_, fun b hb => hbl b (by omega) (fun e => by have := (own_lt h.row b e).1; omega) (by omega)⟩
    have := hgrow.size
    simpa using this

/-- f with page p. -/
def upd (f : Nat → Option Nat) (p b : Nat) : Nat → Option Nat := fun q => if q = p then some b else f q

/-- A page is made. -/
theorem Paged.made {g cap p : Nat} {Z : Array Value} (h : Paged w E O (.slice (some ⟨g, 0, none⟩) vs.length cap) vs f) (hp : p < vs.length) (hf : f p = none) (hZ : Z.size = lnOf p) :
    Paged ((w.alloc (.cells Z 85)).setCell ⟨g, p, none⟩ (pv p (some w.heap.size))).drew E O (.slice (some ⟨g, 0, none⟩) vs.length cap) (vs.set p (pv p (some w.heap.size))) (upd f p w.heap.size) ∧
      (∀ q b, f q = some b → upd f p w.heap.size q = some b ∧ ((w.alloc (.cells Z 85)).setCell ⟨g, p, none⟩ (pv p (some w.heap.size))).drew.heap[b]? = w.heap[b]?) ∧ Below E w ((w.alloc (.cells Z 85)).setCell ⟨g, p, none⟩ (pv p (some w.heap.size))).drew := by
  have hE := h.lt
  obtain ⟨hg1, curg, hg2⟩ := own_lt h.row g rfl
  have hgs := (Array.getElem?_eq_some_iff.1 hg2).1
  have hbl : ∀ b, b < w.heap.size → b ≠ g → ((w.alloc (.cells Z 85)).setCell ⟨g, p, none⟩ (pv p (some w.heap.size))).heap[b]? = w.heap[b]? := fun b h1 h2 => by
    rw [Below.heap_setCell _ _ _ _ h2]; exact Below.heap_alloc w _ b h1
  have hlt : ∀ q b, f q = some b → b < w.heap.size ∧ b ≠ g := fun q b hb => by
    obtain ⟨_, cur, h2, _⟩ := h.pages q b hb
    exact ⟨(Array.getElem?_eq_some_iff.1 h2).1, fun e => h.not_row hb (by rw [e]; rfl)⟩
  have hst := (h.row.alloc (.cells Z 85)).stored p (pv p (some w.heap.size))
  have hEc : ((w.alloc (.cells Z 85)).setCell ⟨g, p, none⟩ (pv p (some w.heap.size))).heap[E]? = w.heap[E]? := hbl E hE (by omega)
  refine ⟨Paged.drew ⟨(World.cell?_of_block (w := w) (a := ⟨E, O, none⟩) hEc).trans h.here, (World.frozen?_of_block (w := w) (a := ⟨E, O, none⟩) hEc).trans h.free, ?_, ?_, ?_, ?_, ?_, ?_⟩, ?_, ?_⟩
  · rw [List.length_set]; exact hst.1
  · intro q hq
    rw [List.length_set] at hq
    by_cases he : q = p
    · subst he
      rw [List.getElem?_set_self hq]
      simp [upd]
    · rw [List.getElem?_set_ne (fun e => he e.symm), h.vals q hq]
      simp [upd, he]
  · intro q hq
    rw [List.length_set] at hq
    have : q ≠ p := by omega
    simp [upd, this, h.out q hq]
  · intro q b hb
    unfold upd at hb
    by_cases he : q = p
    · subst he
      simp at hb
      subst hb
      refine ⟨hE, Z, ?_, hZ⟩
      rw [Below.heap_setCell _ _ _ _ (by simp; omega)]
      exact heap_alloc_new w _
    · rw [if_neg he] at hb
      obtain ⟨h1, cur, h2, h3⟩ := h.pages q b hb
      exact ⟨h1, cur, (hbl b (hlt q b hb).1 (hlt q b hb).2).trans h2, h3⟩
  · intro q r b hq hr
    unfold upd at hq hr
    by_cases e1 : q = p <;> by_cases e2 : r = p
    · omega
    · rw [if_pos e1] at hq
      rw [if_neg e2] at hr
      have := (hlt r b hr).1
      simp at hq
      omega
    · rw [if_neg e1] at hq
      rw [if_pos e2] at hr
      have := (hlt q b hq).1
      simp at hr
      omega
    · rw [if_neg e1] at hq
      rw [if_neg e2] at hr
      exact h.apart q r b hq hr
  · rw [List.length_set]; exact h.few
  · intro q b hb
    have hq : q ≠ p := fun e => by rw [e, hf] at hb; cases hb
    exact ⟨by simp [upd, hq, hb], hbl b (hlt q b hb).1 (hlt q b hb).2⟩
  · refine ⟨rfl, rfl, rfl, ?_, fun b hb => hbl b (by omega) (by omega)⟩
    have := hst.2.size
    simp at this ⊢

/-- A page is written into. -/
theorem Paged.written (h : Paged w E O v vs f) {p b c : Nat} (hb : f p = some b) (u : Value) : Paged (w.setCell ⟨b, c, none⟩ u) E O v vs f := by
  obtain ⟨hEb, cur, hcur, hsz⟩ := h.pages p b hb
  have hEc : (w.setCell ⟨b, c, none⟩ u).heap[E]? = w.heap[E]? := Below.heap_setCell _ _ _ _ (by simp; omega)
  refine ⟨(World.cell?_of_block (w := w) (a := ⟨E, O, none⟩) hEc).trans h.here, (World.frozen?_of_block (w := w) (a := ⟨E, O, none⟩) hEc).trans h.free, ownsRow_setCell_other h.row (h.not_row hb) u, h.vals, h.out, ?_, h.apart, h.few⟩
  intro q b' hb'
  obtain ⟨h1, cur', h2, h3⟩ := h.pages q b' hb'
  by_cases he : b' = b
  · subst he
    exact ⟨h1, _, heap_setCell_same w b' c cur' 85 u h2, by simpa using h3⟩
  · exact ⟨h1, cur', (Below.heap_setCell _ _ _ _ he).trans h2, h3⟩

/-- A slot is there. -/
theorem Paged.slot (h : Paged w E O v vs f) {p b c : Nat} (hb : f p = some b) (hc : c < lnOf p) : (∃ u, w.cell? ⟨b, c, none⟩ = some u) ∧ w.frozen? ⟨b, c, none⟩ = false := by
  obtain ⟨hEb, cur, hcur, hsz⟩ := h.pages p b hb
  refine ⟨⟨cur[c]'(by omega), ?_⟩, frozen_of_row w b c cur 85 hcur⟩
  rw [cell_of_row w b c cur 85 (0, 0) hcur]
  simp [hsz, hc]

end
#print axioms Paged.made
#print axioms Paged.grown
end Go.Proofs.YbulkbsdsGreat
