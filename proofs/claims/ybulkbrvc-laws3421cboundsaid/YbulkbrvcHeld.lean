/-
  The walk of (*ledger).heldBack.
-/
import Derived.Test.YbulkbrvcMap
import Derived.WalkLawsBesides
import Derived.WalkSpells
import Derived.RegionTactic
import Derived.BigRegion
import Derived.Outline
namespace Go.Proofs.Ybulkbrvc
open Go.ChangeShapes Go.WideShapes Go.ChangeAt Go.RowKit

theorem hide {p : Prop} (h : p) : Hid p := h
theorem unhide {p : Prop} (h : Hid p) : p := h

/-- FULL: nothing is taken. -/
theorem held_full (G b : Nat) (D : DataW Unit) (L : List Pr) (p : Pr) (w : World) (hG : w.heap[G]? = some (ledger (.map (some b)))) (hown : w.ownsMap Yba.prog 27 (plainElem Yba.prog 4) b L.length D)
    (hR : Rep D L) (hL : L.length = 1024) :
    Calls Yba.prog 7 #[.pointer (some ⟨G, 0, none⟩), .agg #[.string p.1, .string p.2]] w fun e w' => e = .returned (.tuple #[]) ∧ w' = w.alloc (.cells #[.string p.1, .string p.2] 27) := by
  have c2 : w.cell? ⟨G, 2, none⟩ = some (.map (some b)) := by simp [World.cell?, hG, ledger]
  have hlt : G < w.heap.size := (Array.getElem?_eq_some_iff.1 hG).1
  have hs : Maps.size D = 1024 := by rw [hR.size, hL]
  have hlen : ∀ ty, (Builtin.len_ #[35] ty #[.map (some b)]).run Yba.prog (w.alloc (.cells #[.string p.1, .string p.2] 27)) = .ok (.int .i64 1024) (w.alloc (.cells #[.string p.1, .string p.2] 27)) := fun ty => by
    have := (hown.alloc (.cells #[.string p.1, .string p.2] 27)).len Yba.underlying35 ty
    rw [hs] at this
    exact this
  clear hown hR hL hs hG
  go_enter Yba.func7, Yba.ntmps7
  go_wp2
  exact bodyPost_ret (results_none rfl _ _ _) rfl ⟨rfl, rfl⟩

/-- ROOM, and the map is there. -/
theorem held_room (G b : Nat) (D : DataW Unit) (L : List Pr) (p : Pr) (hp : okP p) (w : World) (hG : w.heap[G]? = some (ledger (.map (some b)))) (hown : w.ownsMap Yba.prog 27 (plainElem Yba.prog 4) b L.length D)
    (hR : Rep D L) (hL : L.length < 1024) :
    Calls Yba.prog 7 #[.pointer (some ⟨G, 0, none⟩), .agg #[.string p.1, .string p.2]] w fun e w' => e = .returned (.tuple #[]) ∧
      w'.ownsMap Yba.prog 27 (plainElem Yba.prog 4) b (L.length + 1) (D.put (kl p) (.lit (.bool true))) ∧ (w.alloc (.cells #[.string p.1, .string p.2] 27)).grownBy w' (some b) := by
  have c2 : w.cell? ⟨G, 2, none⟩ = some (.map (some b)) := by simp [World.cell?, hG, ledger]
  have hlt : G < w.heap.size := (Array.getElem?_eq_some_iff.1 hG).1
  have hs : Maps.size D = L.length := hR.size
  have hlen : ∀ ty, (Builtin.len_ #[35] ty #[.map (some b)]).run Yba.prog (w.alloc (.cells #[.string p.1, .string p.2] 27)) = .ok (.int .i64 L.length) (w.alloc (.cells #[.string p.1, .string p.2] 27)) := fun ty => by
    have := (hown.alloc (.cells #[.string p.1, .string p.2] 27)).len Yba.underlying35 ty
    rw [hs] at this
    exact this
  obtain ⟨w1, hrun, hown1, hg1⟩ := ((hown.alloc (.cells #[.string p.1, .string p.2] 27)).drew).update (d := .lit (.bool true)) Yba.law Yba.underlying35 (by unfold maxLen; omega) (key_of p hp) (plainElem_bool Yba.underlying4 true)
  simp only [pv] at hrun
  have hne : ((L.length : Int) == 1024) = false := by simp; omega
  have hnil := fun w0 => run_eql_map_nil (P := Yba.prog) w0 35 _ _ (some b) Yba.underlying35
  have F : w1.ownsMap Yba.prog 27 (plainElem Yba.prog 4) b (L.length + 1) (D.put (kl p) (.lit (.bool true))) ∧ (w.alloc (.cells #[.string p.1, .string p.2] 27)).grownBy w1 (some b) := ⟨hown1, ⟨hg1.os, hg1.tape, hg1.output, hg1.size, hg1.block⟩⟩
  have HF := hide F
  clear hown hR hL hs hG hown1 hg1 F
  go_enter Yba.func7, Yba.ntmps7
  go_wp2
  go_region
  go_end0
  exact ⟨rfl, unhide HF⟩

/-- NOTHING HELD BACK YET: the map is made. -/
theorem held_nil (G : Nat) (p : Pr) (hp : okP p) (w : World) (hG : w.heap[G]? = some (ledger (.map none))) :
    Calls Yba.prog 7 #[.pointer (some ⟨G, 0, none⟩), .agg #[.string p.1, .string p.2]] w fun e w' => e = .returned (.tuple #[]) ∧
      w'.ownsMap Yba.prog 27 (plainElem Yba.prog 4) (w.heap.size + 1) 1 ((DataW.map [] : DataW Unit).put (kl p) (.lit (.bool true))) ∧
      (((w.setCell ⟨G, 2, none⟩ (.map (some (w.heap.size + 1)))).alloc (.cells #[.string p.1, .string p.2] 27)).alloc (.map #[] 0)).grownBy w' (some (w.heap.size + 1)) := by
  have c2 : w.cell? ⟨G, 2, none⟩ = some (.map none) := by simp [World.cell?, hG, ledger]
  have f2 : w.frozen? ⟨G, 2, none⟩ = false := by simp [World.frozen?, hG, ledger]
  have hlt : G < w.heap.size := (Array.getElem?_eq_some_iff.1 hG).1
  have hmm := @run_makeMap Yba.prog
  have e1 : ((w.setCell ⟨G, 2, none⟩ (.map (some (w.heap.size + 1)))).alloc (.cells #[.string p.1, .string p.2] 27)).heap.size = w.heap.size + 1 := by simp [World.setCell]
  have hown0 := World.ownsMap_made (H := Unit) ((w.setCell ⟨G, 2, none⟩ (.map (some (w.heap.size + 1)))).alloc (.cells #[.string p.1, .string p.2] 27)) Yba.prog 27 (plainElem Yba.prog 4)
  rw [e1] at hown0
  have hown := hown0.drew
  obtain ⟨w1, hrun, hown1, hg1⟩ := hown.update (d := .lit (.bool true)) Yba.law Yba.underlying35 (by unfold maxLen; omega) (key_of p hp) (plainElem_bool Yba.underlying4 true)
  simp only [pv] at hrun
  have hnil := fun w0 => run_eql_map_nil (P := Yba.prog) w0 35 _ _ none Yba.underlying35
  have hlen : ∀ w0 ty, (Builtin.len_ #[35] ty #[.map none]).run Yba.prog w0 = .ok (.int .i64 0) w0 := fun w0 ty => Maps.len_nil Yba.underlying35 ty
  have F : w1.ownsMap Yba.prog 27 (plainElem Yba.prog 4) (w.heap.size + 1) 1 ((DataW.map [] : DataW Unit).put (kl p) (.lit (.bool true))) ∧
      (((w.setCell ⟨G, 2, none⟩ (.map (some (w.heap.size + 1)))).alloc (.cells #[.string p.1, .string p.2] 27)).alloc (.map #[] 0)).grownBy w1 (some (w.heap.size + 1)) := ⟨hown1, ⟨hg1.os, hg1.tape, hg1.output, hg1.size, hg1.block⟩⟩
  have HF := hide F
  clear hown hG hown1 hg1 F hown0 e1
  go_enter Yba.func7, Yba.ntmps7
  go_wp2
  go_region
  go_end0
  exact ⟨rfl, unhide HF⟩

theorem heap_lt {w : World} {k : Nat} {o : Obj} (h : w.heap[k]? = some o) : k < w.heap.size := (Array.getElem?_eq_some_iff.1 h).1

/-- THE CONTRACT OF heldBack. -/
theorem held_any (B G : Nat) (mv : Value) (L : List Pr) (p : Pr) (hp : okP p) (w : World) (hBG : B ≤ G) (hG : w.heap[G]? = some (ledger mv)) (hH : Held B w mv L) (hL : L.length ≤ 1024) :
    Calls Yba.prog 7 #[.pointer (some ⟨G, 0, none⟩), .agg #[.string p.1, .string p.2]] w fun e w' => e = .returned (.tuple #[]) ∧
      ∃ mv' L', AddP L p L' ∧ w'.heap[G]? = some (ledger mv') ∧ Held B w' mv' L' ∧ Since B G w w' := by
  have hlt := heap_lt hG
  rcases hH with ⟨rfl, rfl⟩ | ⟨b, D, rfl, hB, hown, hR, hne⟩
  · refine (held_nil G p hp w hG).mono ?_
    rintro e w' ⟨rfl, hown, hg⟩
    have hold : ∀ k, k < w.heap.size → k ≠ G → w'.heap[k]? = w.heap[k]? := fun k hk hkG => by
      rw [hg.block k (by simp [World.setCell]; omega) (by simp; omega), Below.heap_alloc _ _ _ (by simp [World.setCell]; omega), Below.heap_alloc _ _ _ (by simp [World.setCell]; omega), Below.heap_setCell _ _ _ _ hkG]
    refine ⟨rfl, .map (some (w.heap.size + 1)), [p], .inr (.inr ⟨by simp, by simp, rfl⟩), ?_, .inr ⟨_, _, rfl, by omega, hown, ?_, by simp⟩, ⟨hg.os, hg.tape, hg.output, ?_, fun k hk => ?_, fun k hk hkG _ => hold k hk hkG⟩⟩
    · rw [hg.block G (by simp [World.setCell]; omega) (by simp; omega)]
      rw [Below.heap_alloc _ _ _ (by simp [World.setCell]; omega), Below.heap_alloc _ _ _ (by simp [World.setCell]; omega)]
      simp only [World.setCell, Array.getElem?_modify, if_true]
      rw [hG]
      simp [ledger]
    · exact rep_put_new rep_empty hp (by simp)
    · have := hg.size; simp [World.setCell] at this; omega
    · exact hold k (by omega) (by omega)
  · by_cases hfull : L.length = 1024
    · refine (held_full G b D L p w hG hown hR hfull).mono ?_
      rintro e w' ⟨rfl, rfl⟩
      refine ⟨rfl, .map (some b), L, .inl ⟨hfull, rfl⟩, ?_, .inr ⟨b, D, rfl, hB, hown.alloc _, hR, hne⟩, ⟨rfl, rfl, rfl, by simp, fun k hk => ?_, fun k hk _ _ => ?_⟩⟩
      · rw [Below.heap_alloc _ _ _ hlt]; exact hG
      · exact Below.heap_alloc _ _ _ (by omega)
      · exact Below.heap_alloc _ _ _ hk
    · refine (held_room G b D L p hp w hG hown hR (by omega)).mono ?_
      rintro e w' ⟨rfl, hown', hg⟩
      have hbG : b ≠ G := fun e => by
        subst e
        obtain ⟨es, c, hb, _⟩ := hown
        rw [hb] at hG
        simp [ledger] at hG
      have hold : ∀ k, k < w.heap.size → k ≠ b → w'.heap[k]? = w.heap[k]? := fun k hk hkG => by
        rw [hg.block k (by simp; omega) (by simp; omega), Below.heap_alloc _ _ _ hk]
      have hS : Since B G w w' := by
        refine ⟨hg.os, hg.tape, hg.output, ?_, fun k hk => hold k (by omega) (by omega), fun k hk _ hm => hold k hk (fun e => ?_)⟩
        · have := hg.size; simp at this; omega
        · subst e
          obtain ⟨es, c, hb, _⟩ := hown
          exact hm es c hb
      have hG' : w'.heap[G]? = some (ledger (.map (some b))) := by rw [hold G hlt (fun e => hbG e.symm)]; exact hG
      by_cases hm : p ∈ L
      · have hR' := rep_put_old hR hp hm
        refine ⟨rfl, .map (some b), L, .inr (.inl ⟨hfull, hm, rfl⟩), hG', .inr ⟨b, _, rfl, hB, ?_, hR', hne⟩, hS⟩
        have := ownsMap_tight hown'
        rw [hR'.size] at this
        exact this
      · have hR' := rep_put_new hR hp hm
        refine ⟨rfl, .map (some b), L ++ [p], .inr (.inr ⟨hfull, hm, rfl⟩), hG', .inr ⟨b, _, rfl, hB, ?_, hR', by simp⟩, hS⟩
        have := ownsMap_tight hown'
        rw [hR'.size] at this
        exact this

#print axioms held_any
end Go.Proofs.Ybulkbrvc
