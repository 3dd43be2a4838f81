/-
  The ledger's set of held-back pairs, as a map keyed by a struct of two strings: the key's law, what a key reads as, and the set told by the list of its pairs. No walk here.
-/
import Derived.Test.YbulkbrvcRows
import Derived.WalkKit
import Derived.ProofKit
import Derived.DeepKeys4
import Derived.Maps.OwnSet
namespace Go.Proofs.Ybulkbrvc
open Go.ChangeShapes Go.WideShapes Go.ChangeAt Go.RowKit
open Go.Maps (Keyed)

theorem Yba.laidOut : laidOutB Yba.prog = true := by kernel_rfl
theorem Yba.cells27 : Yba.prog.cellsOf 27 = 2 := by kernel_rfl
theorem Yba.row27 : (27 : TypeId) < Yba.prog.types.size := of_decide_eq_true (by kernel_rfl)
theorem Yba.wide27 : (match Yba.prog.underlying 27 with | some (.array _ _) | some (.struct _) => true | _ => false) = true := by kernel_rfl
theorem Yba.law : Keyed Yba.prog 27 := Keyed.of_law (deep_law_laid Yba.laidOut (m := 2) (by omega) Yba.row27 (by kernel_rfl) Yba.wide27)
theorem Yba.zero4 (w : World) : (zeroValue 4).run Yba.prog w = .ok (.bool false) w := by kernel_rfl

/-- A pair of the ledger. -/
abbrev Pr := ByteArray × ByteArray
/-- As a value. -/
def pv (p : Pr) : Value := .agg #[.string p.1, .string p.2]
/-- As a key. -/
def kl (p : Pr) : Lit := .string (keyBytes [.string p.1.data.toList, .string p.2.data.toList])
/-- Its two strings are no longer than a string can be. -/
def okP (p : Pr) : Prop := p.1.size ≤ maxLen ∧ p.2.size ≤ maxLen

theorem Yba.kt27 : Yba.prog.keyType 27 = true := by kernel_rfl
theorem Yba.cells9 : Yba.prog.cellsOf 9 = 1 := by kernel_rfl

theorem key_of (p : Pr) (h : okP p) : keyOf Yba.prog 27 (pv p) = some (kl p) := by
  obtain ⟨a, b⟩ := p
  obtain ⟨h1, h2⟩ := h
  simp only at h1 h2
  have e0 : ∀ m, Yba.prog.keyLits (m + 2) 27 [.string a, .string b] = some [.string a.data.toList, .string b.data.toList] := fun m => by
    simp [Program.keyLits, Yba.underlying27, Yba.underlying9, Yba.cells27, Yba.cells9, h1, h2]
  have e : Yba.prog.keyLits 70 27 [.string a, .string b] = some [.string a.data.toList, .string b.data.toList] := e0 68
  simp [keyOf, pv, Yba.underlying27, Yba.kt27, Value.formed, Yba.cells27, Value.cells, e, kl]

theorem kl_inj {p q : Pr} (hp : okP p) (hq : okP q) (h : kl p = kl q) : p = q := by
  have := Yba.law.inj (key_of p hp) (h ▸ key_of q hq)
  simp only [pv, Value.agg.injEq, Array.mk.injEq, List.cons.injEq, Value.string.injEq, and_true] at this
  exact Prod.ext this.1 this.2

theorem kl_key (p : Pr) : WideAt.IsKeyLit (kl p) := trivial

/-- THE SET TOLD BY A LIST: the datum D (over no tokens) holds just the pairs of L, each with true. -/
structure Rep (D : DataW Unit) (L : List Pr) : Prop where
  tidy : Maps.Tidy D
  size : Maps.size D = L.length
  has : ∀ p, okP p → (Maps.has D (kl p) = true ↔ p ∈ L)
  val : ∀ p ∈ L, D.atKey (kl p) (.lit (.bool false)) = .lit (.bool true)
  ok : ∀ p ∈ L, okP p

theorem rep_empty : Rep (.map []) [] :=
  ⟨Maps.tidy_empty, rfl, fun p _ => by simp [Maps.has], fun p hp => by simp at hp, fun p hp => by simp at hp⟩

theorem rep_put_old {D : DataW Unit} {L : List Pr} (h : Rep D L) {p : Pr} (hp : okP p) (hm : p ∈ L) : Rep (D.put (kl p) (.lit (.bool true))) L := by
  refine ⟨h.tidy.put (kl_key p) _, ?_, fun q hq => ?_, fun q hq => ?_, h.ok⟩
  · rw [Maps.size_put h.tidy, if_pos ((h.has p hp).2 hm)]; exact h.size
  · by_cases e : kl q = kl p
    · have := kl_inj hq hp e
      subst this
      rw [Maps.has_put_same h.tidy.isMap (kl_key q)]
      simp [hm]
    · rw [Maps.has_put_other e]; exact h.has q hq
  · by_cases e : kl q = kl p
    · rw [e, Maps.atKey_put_same h.tidy.isMap (kl_key p)]
    · rw [Maps.atKey_put_other e]; exact h.val q hq

theorem rep_put_new {D : DataW Unit} {L : List Pr} (h : Rep D L) {p : Pr} (hp : okP p) (hm : p ∉ L) : Rep (D.put (kl p) (.lit (.bool true))) (L ++ [p]) := by
  have hn : Maps.has D (kl p) = false := by
    cases e : Maps.has D (kl p)
    · rfl
    · exact absurd ((h.has p hp).1 e) hm
  refine ⟨h.tidy.put (kl_key p) _, ?_, fun q hq => ?_, fun q hq => ?_, fun q hq => ?_⟩
  · rw [Maps.size_put h.tidy, if_neg (by simp [hn])]; simp [h.size]
  · by_cases e : kl q = kl p
    · have := kl_inj hq hp e
      subst this
      rw [Maps.has_put_same h.tidy.isMap (kl_key q)]
      simp
    · rw [Maps.has_put_other e, h.has q hq]
      have : q ≠ p := fun e' => e (by rw [e'])
      simp [this]
  · by_cases e : kl q = kl p
    · rw [e, Maps.atKey_put_same h.tidy.isMap (kl_key p)]
    · rw [Maps.atKey_put_other e]
      refine h.val q ?_
      rcases List.mem_append.1 hq with hq | hq
      · exact hq
      · simp at hq; exact absurd (by rw [hq]) e
  · rcases List.mem_append.1 hq with hq | hq
    · exact h.ok q hq
    · simp at hq; subst hq; exact hp

/-- One pair more, as heldBack and the model take it. -/
def AddP (L : List Pr) (p : Pr) (L' : List Pr) : Prop :=
  (L.length = 1024 ∧ L' = L) ∨ (L.length ≠ 1024 ∧ p ∈ L ∧ L' = L) ∨ (L.length ≠ 1024 ∧ p ∉ L ∧ L' = L ++ [p])

theorem ownsMap_tight {w : World} {R : Value → Option (DataW Unit × List MemPlace)} {b n : Nat} {D : DataW Unit} (h : w.ownsMap Yba.prog 27 R b n D) : w.ownsMap Yba.prog 27 R b (Maps.size D) D := by
  obtain ⟨es, clock, hb, F, _, rfl⟩ := h
  exact ⟨es, clock, hb, F, by simp [Maps.size, length_sorted], rfl⟩

/-- THE MAP IN THE FIELD 'withheld', a block from B on: nil where nothing is held back. -/
def Held (B : Nat) (w : World) (mv : Value) (L : List Pr) : Prop :=
  (mv = .map none ∧ L = []) ∨ ∃ b D, mv = .map (some b) ∧ B ≤ b ∧ w.ownsMap Yba.prog 27 (plainElem Yba.prog 4) b L.length D ∧ Rep D L ∧ L ≠ []

theorem Held.kept {B : Nat} {w w' : World} {mv : Value} {L : List Pr} (h : Held B w mv L) (hk : ∀ (k : Nat) es c, w.heap[k]? = some (Obj.map es c) → w'.heap[k]? = some (Obj.map es c)) : Held B w' mv L := by
  rcases h with h | ⟨b, D, rfl, hB, ⟨es, clock, hb, r⟩, h2⟩
  · exact .inl h
  · exact .inr ⟨b, D, rfl, hB, ⟨es, clock, hk _ _ _ hb, r⟩, h2⟩

/-- What a call leaves as it was: all below B, and every old block but the ledger's own and the maps. -/
structure Since (B G : Nat) (w w' : World) : Prop where
  os : w'.os = w.os
  tape : w'.tape = w.tape
  output : w'.output = w.output
  size : w.heap.size ≤ w'.heap.size
  low : ∀ k, k < B → w'.heap[k]? = w.heap[k]?
  high : ∀ k, k < w.heap.size → k ≠ G → (∀ es c, w.heap[k]? ≠ some (Obj.map es c)) → w'.heap[k]? = w.heap[k]?

theorem Since.below {B G : Nat} {w w' : World} (h : Since B G w w') : Below B w w' := ⟨h.os, h.tape, h.output, h.size, h.low⟩

/-- The ledger's block. -/
def ledger (mv : Value) : Obj := .cells #[.int .i64 2, .slice none 0 0, mv, .map none] 38 (0, 0)

#print axioms rep_put_new
end Go.Proofs.Ybulkbrvc
