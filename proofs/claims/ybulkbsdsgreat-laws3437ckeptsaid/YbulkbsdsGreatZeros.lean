/-
  'append(s, make([]T, k)...)' onto a slice that the call owns, T of one cell: no program here.
-/
import Derived.Test.YbulkbsdsGreatPage
import Derived.Lib.AppendZerosOnto
import Derived.Deep.RegionHeld3
import Derived.Deep.AppendLies
import Derived.Deep.RegionLaw
import Derived.Laws.OwnMore
import Derived.Below
namespace Go.Proofs.YbulkbsdsGreat
open Go.RowKit

theorem zeroCells_one (z : Value) (k : Nat) : Builtin.zeroCells #[z] k = (List.replicate k z).toArray := by
  apply Array.ext'
  apply List.ext_getElem?
  intro j
  by_cases hj : j < k
  · simp [Builtin.zeroCells, hj, Nat.mod_one]
  · simp [Builtin.zeroCells, hj]

theorem run_room_zeros {P : Program} (w : World) (t tn ty e : TypeId) (i : TypeInfo) (z : Value) (kq kn : IntKind) (ht : P.underlying t = some (.slice e)) (htn : P.underlying tn = some (.int kn)) (hi : P.info? e = some i) (hz : i.zero = some z)
    (hs : i.size = 1) (hzc : z.cells = #[z]) (hz1 : z.oneCell' = true) (g n cap : Nat) (cur : Array Value) (hg : w.heap[g]? = some (.cells cur e (0, 0))) (k : Nat) (h0 : 0 < k) (hroom : n + k ≤ cap) (hfit : n + k ≤ cur.size) (h63 : ((n + k : Nat) : Int) ≤ 9223372036854775807) (h48 : k * i.bytes ≤ 281474976710656) :
    (Builtin.append_ #[t, tn] ty #[.slice (some ⟨g, 0, none⟩) n cap, .int kq k]).run P w =
      .ok (.slice (some ⟨g, 0, none⟩) (n + k) cap) (w.setRow g (cur.toList.take n ++ List.replicate k z ++ cur.toList.drop (n + k)).toArray) := by
  have hst := run_storeCells_at P g (n * i.size) e (List.replicate k z) 0 cur w hg (by rw [hs]; simp; omega) (by intro u hu; rw [(List.mem_replicate.1 hu).2]; exact hz1)
  simp only [Nat.add_zero, hs, Nat.mul_one, List.length_replicate] at hst
  have hk : k ≠ 0 := by omega
  have hw : IntKind.i64.wrap (k : Int) = k := by rw [IntKind.wrap_i64]; omega
  have h48i : ¬ (281474976710656 < (k : Int) * (i.bytes : Int)) := by
    rw [← Int.natCast_mul]
    omega
  have hneg : ¬ ((k : Int) < 0) := by omega
  simp [Builtin.append_, run_underlying ht, run_underlying htn, sizeOf, typeInfo, zeroValue, hi, hz, asInt, asIntOf, hw, hneg, hk, hs, h48i, hroom, hzc, zeroCells_one, Addr.add_lit, hst]

/-- THE LAW. -/
theorem run_append_zeros {P : Program} (w : World) (t tn ty e : TypeId) (i : TypeInfo) (z : Value) (kq kn : IntKind) (ht : P.underlying t = some (.slice e)) (htn : P.underlying tn = some (.int kn)) (hi : P.info? e = some i) (hz : i.zero = some z)
    (hs : i.size = 1) (hby : i.bytes ≤ 1000) (hzc : z.cells = #[z]) (hz1 : z.oneCell' = true) (base : Nat) (v : Value) (n : Nat) (xs : List Value) (hown : w.ownsRow base e 1 v n xs) (k : Nat) (h0 : 0 < k) (hsm : n + k ≤ 1000000) (hbase : base ≤ w.heap.size) :
    ∃ g cap w', (Builtin.append_ #[t, tn] ty #[v, .int kq k]).run P w = .ok (.slice (some ⟨g, 0, none⟩) (n + k) cap) w' ∧
      w'.ownsRow base e 1 (.slice (some ⟨g, 0, none⟩) (n + k) cap) (n + k) (xs ++ List.replicate k z) ∧ w.grownBy w' v.ownBlock := by
  have hlen : (xs ++ List.replicate k z).length = (n + k) * 1 := by rw [List.length_append, hown.1, List.length_replicate]; omega
  have hbk : k * i.bytes ≤ 1000000 * 1000 := Nat.mul_le_mul (by omega) hby
  have hbn : (n + k) * i.bytes ≤ 1000000 * 1000 := Nat.mul_le_mul hsm hby
  have h63 : n + k ≤ maxLen := by unfold maxLen; omega
  have grown : ∀ (old : Nat), ∀ (row : Option Nat),
      (w.drew.alloc (.cells (xs.toArray ++ (List.replicate k z).toArray ++ Builtin.zeroCells z.cells (grownCap w (n + k) old e - (n + k))) e)).ownsRow base e 1
        (.slice (some ⟨w.heap.size, 0, none⟩) (n + k) (grownCap w (n + k) old e)) (n + k) (xs ++ List.replicate k z) ∧
      w.grownBy (w.drew.alloc (.cells (xs.toArray ++ (List.replicate k z).toArray ++ Builtin.zeroCells z.cells (grownCap w (n + k) old e - (n + k))) e)) row := by
    intro old row
    have hge := grownCap_ge w (n + k) old e
    have hcm : grownCap w (n + k) old e ≤ maxLen := grownCap_le_maxLen w (n + k) old e h63
    have hx := hown.1
    refine ⟨⟨hlen, .inr ⟨w.heap.size, _, _, rfl, hbase, heap_alloc_new w.drew _, hge, hcm, ?_, ?_⟩⟩, ⟨rfl, rfl, rfl, by simp, fun j hj _ => Below.heap_alloc w.drew _ j hj⟩⟩
    · simp only [Array.size_append, List.size_toArray, size_zeroCells, hzc, List.length_replicate]
      simp
      omega
    · simp only [Array.toList_append, List.append_assoc]
      rw [← List.append_assoc, ← hlen]
      exact List.take_left
  rcases hown.2 with ⟨rfl, rfl⟩ | ⟨g, cap, cur, rfl, hbg, hg, hnc, hcm, hcs, htake⟩
  · have hx : xs = [] := List.eq_nil_of_length_eq_zero (by simpa using hown.1)
    subst hx
    have hr := Go.Lib.run_append_nil_zeros (P := P) w t tn ty e i z kq kn ht htn hi hz k h0 (by omega) (by omega) (by omega)
    have hgr := grown 0 (Value.ownBlock (.slice none 0 0))
    simp only [Nat.zero_add, List.nil_append, Array.empty_append] at hgr ⊢
    rw [hzc, zeroCells_one] at hr
    rw [hzc] at hgr
    exact ⟨_, _, _, hr, by simpa using hgr.1, by simpa using hgr.2⟩
  · by_cases hroom : n + k ≤ cap
    · have hr := run_room_zeros (P := P) w t tn ty e i z kq kn ht htn hi hz hs hzc hz1 g n cap cur hg k h0 hroom (by omega) (by omega) (by omega)
      refine ⟨g, cap, _, hr, ⟨hlen, .inr ⟨g, cap, _, rfl, hbg, setRow_heap w g cur _ e _ hg, hroom, hcm, ?_, ?_⟩⟩, ⟨rfl, rfl, rfl, by simp, fun k _ hk => setRow_other w g k _ (fun e => hk (by simp [Value.ownBlock, e]))⟩⟩
      · simp only [List.size_toArray, List.length_append, List.length_take, List.length_drop, Array.length_toList, List.length_replicate]
        omega
      · rw [Nat.mul_one] at htake
        rw [htake, ← hlen]
        exact List.take_left
    · have holds : ∀ j u, xs[j]? = some u → w.cell? ((⟨g, 0, none⟩ : Addr).add j) = some u := hown.cells (g := g) rfl
      have hold := run_firstCells_some (P := P) w.drew i.size n ⟨g, 0, none⟩ n cap xs (by rw [hs]; exact hown.1) holds
      have hr := Go.Lib.run_append_grow_zeros (P := P) w t tn ty e i z kq kn ht htn hi hz (some ⟨g, 0, none⟩) n cap xs hold k h0 (by omega) (by omega) (by omega) (by omega) (growslice_fits (by omega) (by omega))
      have hgr := grown cap (Value.ownBlock (.slice (some ⟨g, 0, none⟩) n cap))
      rw [hzc, zeroCells_one] at hr
      rw [hzc] at hgr
      rw [zeroCells_one] at hr hgr
      exact ⟨_, _, _, hr, hgr.1, hgr.2⟩

/-- AT A STEP OF A REGION THAT DRAWS ITS ORDER. -/
theorem step_append_zeros {P : Program} (w : World) {ops : Array Oper} {o : Oper} {a : Act} {K : Act → World → Prop} {Q : Exit → Act → World → Prop} {E : Prop} (hgd : o.guard = none) (s x : Operand) (t tn : TypeId)
    (ho : o.op = .call { callee := .builtin .append, args := #[s, x], argTypes := #[t, tn] }) (e : TypeId) (i : TypeInfo) (z : Value) (kq kn : IntKind) (ht : P.underlying t = some (.slice e)) (htn : P.underlying tn = some (.int kn)) (hi : P.info? e = some i) (hz : i.zero = some z)
    (hs : i.size = 1) (hby : i.bytes ≤ 1000) (hzc : z.cells = #[z]) (hz1 : z.oneCell' = true) (base : Nat) (v : Value) (n : Nat) (xs : List Value) (hes : a.eval s = v) (hown : w.ownsRow base e 1 v n xs) (k : Nat) (X : Int) (hex : a.eval x = .int kq X) (hX : X = (k : Int)) (h0 : 0 < k) (N : Nat) (hN : n + k = N) (hsm : N ≤ 1000000) (hbase : base ≤ w.heap.size)
    (h : ∀ g cap w', w'.ownsRow base e 1 (.slice (some ⟨g, 0, none⟩) N cap) N (xs ++ List.replicate k z) → w.grownBy w' v.ownBlock → K (a.put o.dst (.slice (some ⟨g, 0, none⟩) N cap)) w') :
    if Region.wanted o (yielded ops a.tmps) = true then Oper.wp P o a w K Q else E := by
  subst hN
  have hw : Region.wanted o (yielded ops a.tmps) = true := by simp [Region.wanted, hgd]
  rw [if_pos hw]
  obtain ⟨g, cap, w', hr, h2, h3⟩ := run_append_zeros (P := P) w t tn o.type e i z kq kn ht htn hi hz hs hby hzc hz1 base v n xs hown k h0 hsm hbase
  subst hX
  exact Go.Lib.wp_append_run w s x t tn ho v _ hes hex _ w' hr (h g cap w' h2 h3)

#print axioms run_append_zeros
#print axioms step_append_zeros
end Go.Proofs.YbulkbsdsGreat
