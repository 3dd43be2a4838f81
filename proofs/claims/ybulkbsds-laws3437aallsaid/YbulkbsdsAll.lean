/-
  The law's own walk: LawS3437AAll.
-/
import Derived.Test.YbulkbsdsEq
namespace Go.Proofs.Ybulkbsds
open Go.RowKit Go.Shelf

attribute [local go_sem] Oper.semAt_some

theorem wpListIn_make_full {F : Fence} {n : Nat} {P : Program} (w : World) {ops : Array Oper} {rest : List Oper} {o : Oper} {a : Act} {Q : Exit → Act → World → Prop}
    (hg : o.guard = none) (l c : Operand) (t : TypeId) (hop : o.op = Op.makeSlice t l c)
    (base : Nat) (e : TypeId) (i : TypeInfo) (z : Value) (size : Nat) (h1 : P.underlying t = some (.slice e)) (h2 : P.info? e = some i) (h3 : i.zero = some z) (h4 : i.size = size)
    (kl kc : IntKind) (L C : Int) (m : Nat) (hl : a.eval l = .int kl L) (hc : a.eval c = .int kc C) (hL : L = (m : Int)) (hC : C = (m : Int)) (b2 : i.bytes * m ≤ 281474976710656) (b3 : m ≤ maxLen) (b4 : base ≤ w.heap.size)
    (hK : ∀ w', w.heap.size < w'.heap.size → w.grownBy w' none → wpListIn F n P ops Q rest (a.put o.dst (.slice (some ⟨w.heap.size, 0, none⟩) m m)) w') :
    wpListIn F n P ops Q (o :: rest) a w := by
  refine wpListIn_plain hg fun K hK' => ?_
  obtain ⟨w', hrun, r1, r2⟩ := run_make_full (P := P) w base t e i z size h1 h2 h3 h4 kl kc m b2 b3 b4
  subst hL
  subst hC
  unfold Oper.wpIn
  refine ⟨?_, ?_⟩
  · simp [Oper.about, hop]
  · rw [Oper.semAt_plain F _ _ (by rw [hop]; intro c hc'; cases hc')]
    simp [execOp, hop, hl, hc, hrun, Result.andThen]
    refine hK' _ _ (hK w' ?_ r2)
    rcases r1.2 with ⟨h', _⟩ | ⟨g, cp, cur, hv, _, hb, _⟩
    · simp at h'
    · simp only [Value.slice.injEq, Option.some.injEq, Addr.mk.injEq, true_and, and_true] at hv
      obtain ⟨rfl, rfl⟩ := hv
      exact (Array.getElem?_eq_some_iff.1 hb).1

theorem info86 : ∃ i z, Yba.prog.info? 86 = some i ∧ i.zero = some z ∧ i.size = 4 ∧ i.bytes ≤ 1000 := by
  have h : (Yba.prog.info? 86).map (fun i => (i.zero.isSome, i.size, decide (i.bytes ≤ 1000))) = some (true, 4, true) := by kernel_rfl
  obtain ⟨i, hi, hz⟩ := Option.map_eq_some_iff.1 h
  simp only [Prod.mk.injEq, decide_eq_true_eq] at hz
  obtain ⟨z, hz0⟩ := Option.isSome_iff_exists.1 hz.1
  exact ⟨i, z, hi, hz0, hz.2.1, hz.2.2⟩

theorem infos3 : (Yba.prog.info? 3).map (fun i => (i.zero, i.size, i.bytes)) = some (some (.int .i64 0), 1, 8) := by kernel_rfl

theorem limit_lim (F : Fence) (n : Nat) (h5 : F.fn 5) (hro : F.round = none) (s lim : Int) (hs0 : 0 ≤ s) (hs1 : s ≤ 255) (hlim : Hid (lim = (if s = 0 then 1048576 else s))) (w : World) :
    CallsIn F n Yba.prog 5 #[.int .u8 s] w fun e w' => e = .returned (.int .i64 lim) ∧ w = w' := by
  refine (limit_in F n h5 hro s hs0 hs1 w).mono ?_
  rintro e w' ⟨rfl, rfl⟩
  exact ⟨by rw [unhide hlim], rfl⟩

theorem keptK_b {N g : Nat} {w : World} (hN : N ≤ w.heap.size) (W : World) (l : Nat) (o o' : Obj) (hl : w.heap.size ≤ l) (_ : W.heap[l]? = some o) (_ : o.isCells = false) (_ : o.isWalk = false) : Kept N g W (W.putObj l o') :=
  ⟨rfl, rfl, rfl, by simp, fun _ hj _ => World.putObj_heap_other (by omega)⟩
theorem ownFrom_kept {β : Type} {N g B : Nat} {w₀ : World} (P : β → Prop) (hN : N ≤ w₀.heap.size) (hB : N ≤ B) : OwnFrom B (fun (s : β) W => P s ∧ Kept N g w₀ W) :=
  fun _ W W' row hs hg hr => ⟨hs.1, hs.2.trans ⟨hg.os, hg.tape, hg.output, hg.size, fun j hj _ => hg.block j (by have := hs.2.2.2.2.1; omega) (fun e => by have := (hr j e.symm).1; omega)⟩⟩
theorem Kept.boxed {N g : Nat} {A C : World} (h : Kept N g A C) {b : Nat} {t : TypeId} {v : Value} (hb : b < N) (hg : b ≠ g) (k : Boxed A b t v) : Boxed C b t v := (h.2.2.2.2 b hb hg).trans k

theorem own_mono {w : World} {base base' : Nat} {e : TypeId} {size : Nat} {v : Value} {n : Nat} {xs : List Value} (h : w.ownsRow base e size v n xs) (hb : base' ≤ base) : w.ownsRow base' e size v n xs :=
  ⟨h.1, Or.elim h.2 Or.inl (fun ⟨g, cap, cur, hv, hg, r⟩ => .inr ⟨g, cap, cur, hv, Nat.le_trans hb hg, r⟩)⟩

theorem own_irow' {w : World} {base : Nat} {v : Value} {xs : List Int} {n : Nat} (h : w.ownsRow base 3 1 v n (xs.map (Value.int .i64))) : ∃ ao cap, v = .slice ao n cap ∧ IRow w ao xs := by
  have hn : xs.length = n := by have := h.1; simpa using this
  subst hn
  exact own_irow h

theorem below_row {W wr w1 : World} {v : Value} {k : Nat} {xs : List Value} {tmp : Obj} (hb : Below W.heap.size W wr) (hrow : wr.ownsRow W.heap.size 3 1 v k xs) (hg : (wr.alloc tmp).grownBy w1 v.ownBlock) : Below W.heap.size W w1 := by
  have := hb.size
  refine (hb.alloc this tmp).grown hg (by simp; omega) (fun j ej => ?_)
  rcases hrow.2 with ⟨rfl, _⟩ | ⟨g, cap, cur, rfl, hb', _, _⟩
  · simp [Value.ownBlock] at ej
  · obtain rfl : g = j := by simpa [Value.ownBlock] using ej
    exact hb'

theorem IRow.below {w w' : World} {ao : Option Addr} {xs : List Int} (h : IRow w ao xs) (hb : Below w.heap.size w w') : IRow w' ao xs := fun h0 => by
  obtain ⟨b, e, hc⟩ := h h0
  have hlt : b < w.heap.size := World.block_lt_of_cell? w ⟨b, 0, none⟩ (hc 0 h0)
  exact ⟨b, e, fun i hi => (hb.cell (p := ⟨b, i, none⟩) hlt).trans (hc i hi)⟩

theorem eq_n (a1 a2 : Option Addr) (c1 c2 : Nat) (xs : List Int) (n : Nat) (hx : xs.length = n) (w : World) (h1 : IRow w a1 xs) (h2 : IRow w a2 xs) (hn : n ≤ 100000) :
    Calls Yba.prog 7 #[.slice a1 n c1, .slice a2 n c2] w fun e w' => e = .returned (.bool true) ∧ ∃ nq, w' = w.drewN nq := by
  subst hx
  exact eq_same a1 a2 c1 c2 xs w h1 h2 hn

theorem grown_append {W w1 : World} {N g : Nat} {v v' : Value} {k m : Nat} {xs ys : List Value} {tmp : Obj}
    (hv : Boxed W g 41 v) (hrow : W.ownsRow N 3 1 v k xs) (hN : N ≤ W.heap.size) (hown' : w1.ownsRow N 3 1 v' m ys) (hgrow : (W.alloc tmp).grownBy w1 v.ownBlock) :
    Boxed w1 g 41 v ∧ Boxed (w1.setCell ⟨g, 0, none⟩ v') g 41 v' ∧ (w1.setCell ⟨g, 0, none⟩ v').ownsRow N 3 1 v' m ys ∧ KeepsOthers W (w1.setCell ⟨g, 0, none⟩ v') ∧ Kept N g W (w1.setCell ⟨g, 0, none⟩ v') := by
  obtain ⟨p1, p2, _, p4, _⟩ := hv.appended (n₀ := 0) (by decide) (own_mono hrow (Nat.zero_le _)) (Nat.zero_le _) (Nat.zero_le _) (own_mono hown' (Nat.zero_le _)) hgrow
  refine ⟨p1, p2, hown'.kept (grownBy_setCell' w1 g v') (.inr (p1.not_row (by decide) hown').symm), p4, ?_⟩
  have hsz : (W.alloc tmp).heap.size ≤ w1.heap.size := hgrow.size
  simp at hsz
  refine ⟨hgrow.os, hgrow.tape, hgrow.output, ?_, fun j hj hne => ?_⟩
  · show W.heap.size ≤ (w1.setCell ⟨g, 0, none⟩ v').heap.size
    have := (grownBy_setCell' w1 g v').size
    omega
  · rw [Below.heap_setCell _ _ _ _ hne, hgrow.block j (by simp; omega) (fun e' => ?_), Below.heap_alloc _ _ _ (by omega)]
    rcases hrow.2 with ⟨rfl, _⟩ | ⟨g', cap, cur, rfl, hb, _, _⟩
    · simp [Value.ownBlock] at e'
    · have : j = g' := by simpa [Value.ownBlock] using e'
      omega

set_option maxRecDepth 100000 in
set_option maxHeartbeats 4000000 in
theorem all_any (m : Nat) (fr k s : Int) (hm : m ≤ 255) (hf0 : -1024 ≤ fr) (hf1 : fr ≤ 1024) (hs0 : 0 ≤ s) (hs1 : s ≤ 255) (w : World) :
    Calls Yba.prog 3 #[.int .u8 (m : Int), .int .i64 fr, .int .i32 k, .int .u8 s] w fun e w' => e = .returned (.bool true) ∧ Below w.heap.size w w' := by
  have hfr0 : ¬ fr < -1024 := by omega
  have hfr1 : ¬ 1024 < fr := by omega
  obtain ⟨i0, z0, hi0, hz0, hz1, hz2⟩ := info86
  have hmb : i0.bytes * m ≤ 281474976710656 := Nat.le_trans (Nat.mul_le_mul hz2 hm) (by omega)
  obtain ⟨lim, hlim⟩ : ∃ lim, lim = (if s = 0 then 1048576 else s) := ⟨_, rfl⟩
  have hl1 : 1 ≤ lim := by rw [hlim]; split <;> omega
  have hl2 : lim ≤ 1048576 := by rw [hlim]; split <;> omega
  have HLI := hide hlim
  clear hlim
  refine (callsIn_wide (n := 6)).1 ?_
  refine callsIn_of_wp_marks Yba.func3 rfl trivial ?_ rfl
  simp only [Yba.ntmps3, List.size_toArray, List.length_cons, List.length_nil, Nat.reduceAdd, Nat.reduceSub, Array.replicate_succ, Array.replicate_zero, List.push_toArray, List.append_toArray, List.nil_append, List.cons_append]
  gi_wp2_with (first
    | (refine ⟨trivial, ?_⟩; gi_at_call 5; refine (limit_lim Fence.wide _ trivial rfl s lim hs0 hs1 HLI _).mono ?_; rintro e w' ⟨rfl, rfl⟩)
    | (gi_at_make; refine wpListIn_make_full _ rfl _ _ 24 rfl w.heap.size 86 i0 z0 4 Yba.underlying24 hi0 hz0 hz1 _ _ _ _ m rfl rfl rfl rfl hmb (by unfold maxLen; omega) (by simp) ?_))
  intro W2 hlt2 hg2
  have bL : Boxed W2 w.heap.size 3 (.int .i64 lim) := (Boxed.new w 3 (.int .i64 lim)).kept hg2 (by simp)
  have hB2 : Below w.heap.size w W2 := ((Below.refl _ w).alloc (Nat.le_refl _) _).grown hg2 (by simp) (fun k e => by cases e)
  have HG2 := hide hg2
  clear hg2
  gi_wp2_with fail
  have bG := Boxed.new (W2.alloc (.cells #[.int .i64 0, .int .i32 0, .slice none 0 0, .slice (some ⟨w.heap.size + 1, 0, none⟩) m m, .slice none 0 0, .slice none 0 0, .pointer none, .slice none 0 0, .string ⟨#[]⟩, .string ⟨#[]⟩, .slice none 0 0, .slice none 0 0, .slice none 0 0, .int .u8 0] 40)) 41 (.slice none 0 0)
  have hV := heap_alloc2_old W2 (.cells #[.int .i64 0, .int .i32 0, .slice none 0 0, .slice (some ⟨w.heap.size + 1, 0, none⟩) m m, .slice none 0 0, .slice none 0 0, .pointer none, .slice none 0 0, .string ⟨#[]⟩, .string ⟨#[]⟩, .slice none 0 0, .slice none 0 0, .slice none 0 0, .int .u8 0] 40) (.cells #[.slice none 0 0] 41)
  have bL4 := (bL.alloc (.cells #[.int .i64 0, .int .i32 0, .slice none 0 0, .slice (some ⟨w.heap.size + 1, 0, none⟩) m m, .slice none 0 0, .slice none 0 0, .pointer none, .slice none 0 0, .string ⟨#[]⟩, .string ⟨#[]⟩, .slice none 0 0, .slice none 0 0, .slice none 0 0, .int .u8 0] 40)).alloc (.cells #[.slice none 0 0] 41)
  have hB4 := (hB2.alloc (by omega) (.cells #[.int .i64 0, .int .i32 0, .slice none 0 0, .slice (some ⟨w.heap.size + 1, 0, none⟩) m m, .slice none 0 0, .slice none 0 0, .pointer none, .slice none 0 0, .string ⟨#[]⟩, .string ⟨#[]⟩, .slice none 0 0, .slice none 0 0, .slice none 0 0, .int .u8 0] 40)).alloc (by simp; omega) (.cells #[.slice none 0 0] 41)
  have hs4 : ((W2.alloc (.cells #[.int .i64 0, .int .i32 0, .slice none 0 0, .slice (some ⟨w.heap.size + 1, 0, none⟩) m m, .slice none 0 0, .slice none 0 0, .pointer none, .slice none 0 0, .string ⟨#[]⟩, .string ⟨#[]⟩, .slice none 0 0, .slice none 0 0, .slice none 0 0, .int .u8 0] 40)).alloc (.cells #[.slice none 0 0] 41)).heap.size = W2.heap.size + 1 + 1 := by simp
  rw [World.size_alloc] at bG
  generalize (W2.alloc (.cells #[.int .i64 0, .int .i32 0, .slice none 0 0, .slice (some ⟨w.heap.size + 1, 0, none⟩) m m, .slice none 0 0, .slice none 0 0, .pointer none, .slice none 0 0, .string ⟨#[]⟩, .string ⟨#[]⟩, .slice none 0 0, .slice none 0 0, .slice none 0 0, .int .u8 0] 40)).alloc (.cells #[.slice none 0 0] 41) = W4 at *
  refine ⟨trivial, ?_⟩
  refine (conds_in Fence.wide _ trivial trivial rfl (by omega) W2.heap.size k fr (some ⟨w.heap.size + 1, 0, none⟩) m m W4 (by rw [cell_of_row W4 _ _ _ 40 (0, 0) hV]; rfl) (by rw [cell_of_row W4 _ _ _ 40 (0, 0) hV]; rfl)).mono ?_
  rintro e w' ⟨rfl, rfl⟩
  have b0 := (((Boxed.new W4 50 (.slice none 0 0)).alloc (.cells #[.int .i32 k] 21)).alloc (.cells #[.int .i64 fr] 3)).alloc (.cells #[.int .i64 m] 3)
  have b2 := (Boxed.new ((W4.alloc (.cells #[.slice none 0 0] 50)).alloc (.cells #[.int .i32 k] 21)) 3 (.int .i64 fr)).alloc (.cells #[.int .i64 m] 3)
  have b3 := Boxed.new (((W4.alloc (.cells #[.slice none 0 0] 50)).alloc (.cells #[.int .i32 k] 21)).alloc (.cells #[.int .i64 fr] 3)) 3 (.int .i64 m)
  have bG5 := (((bG.alloc (.cells #[.slice none 0 0] 50)).alloc (.cells #[.int .i32 k] 21)).alloc (.cells #[.int .i64 fr] 3)).alloc (.cells #[.int .i64 m] 3)
  have bL5 := (((bL4.alloc (.cells #[.slice none 0 0] 50)).alloc (.cells #[.int .i32 k] 21)).alloc (.cells #[.int .i64 fr] 3)).alloc (.cells #[.int .i64 m] 3)
  have hK5 : Below W4.heap.size W4 ((((W4.alloc (.cells #[.slice none 0 0] 50)).alloc (.cells #[.int .i32 k] 21)).alloc (.cells #[.int .i64 fr] 3)).alloc (.cells #[.int .i64 m] 3)) := ((((Below.refl _ W4).alloc (Nat.le_refl _) _).alloc (by simp) _).alloc (by simp; omega) _).alloc (by simp; omega) _
  have hs5 : ((((W4.alloc (.cells #[.slice none 0 0] 50)).alloc (.cells #[.int .i32 k] 21)).alloc (.cells #[.int .i64 fr] 3)).alloc (.cells #[.int .i64 m] 3)).heap.size = W2.heap.size + 6 := by simp; omega
  rw [World.size_alloc, World.size_alloc, hs4] at b2
  rw [World.size_alloc, World.size_alloc, World.size_alloc, hs4] at b3
  rw [hs4] at b0
  gi_wp2_with fail
  try simp only [hs4]
  generalize (((W4.alloc (.cells #[.slice none 0 0] 50)).alloc (.cells #[.int .i32 k] 21)).alloc (.cells #[.int .i64 fr] 3)).alloc (.cells #[.int .i64 m] 3) = W5 at *
  obtain ⟨i3, hi3, hy0, hy1, hy2⟩ := info_parts infos3
  have hcm : cnt fr (m : Int) ≤ 1279 := by unfold cnt; omega
  refine wpIn_rangeFunc_ownG rfl (by omega) (gf := 9) (lb := #[.pointer (some ⟨W2.heap.size + 1 + 1, 0, none⟩), .pointer (some ⟨W2.heap.size + 1 + 1 + 1 + 1, 0, none⟩), .pointer (some ⟨W2.heap.size + 1 + 1 + 1 + 1 + 1, 0, none⟩), .pointer (some ⟨W2.heap.size + 1 + 1 + 1, 0, none⟩)]) rfl trivial (enters_of Yba.func9 (by kernel_rfl) rfl)
    (iter_stops Fence.wide (6 - 1) trivial rfl (by omega) (W2.heap.size + 1 + 1) (W2.heap.size + 1 + 1 + 1 + 1) (W2.heap.size + 1 + 1 + 1 + 1 + 1) (W2.heap.size + 1 + 1 + 1) (W2.heap.size + 6) (W2.heap.size + 1) fr m hf0 hf1 (by omega) (by omega) (by omega) (by omega) W5 b0.lt b2.lt b3.lt b0.cell b2.cell b3.cell)
    Kept.trans (keptK_b (by omega)) (Below.refl _ _) (fun _ => rfl)
    (fun pre W => (∃ v, Boxed W (W2.heap.size + 1) 41 v ∧ W.ownsRow (W2.heap.size + 6) 3 1 v pre.length (pre.map (Value.int .i64)) ∧ True) ∧ ((pre.length : Int) < lim ∧ Kept (W2.heap.size + 6) (W2.heap.size + 1) W5 W))
    (fun c pre W => (∃ v, Boxed W (W2.heap.size + 1) 41 v ∧ W.ownsRow (W2.heap.size + 6) 3 1 v pre.length (pre.map (Value.int .i64)) ∧ True) ∧ ((c = .exit 0 ∧ (pre.length : Int) = lim) ∧ Kept (W2.heap.size + 6) (W2.heap.size + 1) W5 W))
    (OwnFrom.and (Own.from (holdsRow_own (W2.heap.size + 6) (W2.heap.size + 1) 41 3 1 (fun pre : List Int => pre.length) (fun pre => pre.map (Value.int .i64)) (fun _ _ => True)) _) (ownFrom_kept (fun pre : List Int => (pre.length : Int) < lim) (by omega) (by omega)))
    (fun c => OwnFrom.and (Own.from (holdsRow_own (W2.heap.size + 6) (W2.heap.size + 1) 41 3 1 (fun pre : List Int => pre.length) (fun pre => pre.map (Value.int .i64)) (fun _ _ => True)) _) (ownFrom_kept (fun pre : List Int => c = .exit 0 ∧ (pre.length : Int) = lim) (by omega) (by omega)))
    ⟨⟨_, bG5, World.ownsRow_nil _ _ _ _, trivial⟩, by simp; omega, Kept.refl _ _ _⟩
    ?a1 ?assign ?body ?done ?stop
  case assign =>
    intro l x W K hK
    gi_wp2
    exact hK
  case body =>
    rintro l pre x W ⟨⟨v, hv, hrow, _⟩, hlen, hkp⟩ hlt
    have hc := hv.cell
    have hcl := (hkp.boxed (by omega) (by omega) bL5).cell
    have hsW : W2.heap.size + 6 ≤ W.heap.size := by have := hkp.2.2.2.1; omega
    by_cases hst : (pre.length : Int) + 1 < lim
    · have hst' : ¬ lim ≤ (pre.length : Int) + 1 := by omega
      gi_wp2_with (gi_at_builtin; refine wpListIn_append_own _ rfl _ _ 41 rfl (W2.heap.size + 6) 3 i3 (.int .i64 0) 1 8 Yba.underlying41 hi3 hy0 hy1 hy2 rfl (by decide) _ _ _ rfl (hrow.alloc _) ⟨W.heap.size, 0, none⟩ 1 1 [.int .i64 x] rfl rfl (cell_one_new _ _ _) (by simp [Value.oneCell']) (by unfold maxLen; omega) (by omega) (by simp; omega) ?_; intro v' w1 hown' hgrow _; obtain ⟨g', cap', rfl⟩ := ownsRow_succ hown'; obtain ⟨hv1, hv2, hr2, hk2, hb2⟩ := grown_append hv hrow hsW hown' hgrow; have hc1 := hv1.cell; have hf1 := hv1.frozen; have hc2 := hv2.cell; have hcl2 := ((hkp.trans hb2).boxed (by omega) (by omega) bL5).cell)
      exact ⟨hk2.from _, hb2, ⟨_, hv2, by simpa using hr2⟩, by simpa using hst, hkp.trans hb2⟩
    · have hst' : lim ≤ (pre.length : Int) + 1 := by omega
      gi_wp2_with (gi_at_builtin; refine wpListIn_append_own _ rfl _ _ 41 rfl (W2.heap.size + 6) 3 i3 (.int .i64 0) 1 8 Yba.underlying41 hi3 hy0 hy1 hy2 rfl (by decide) _ _ _ rfl (hrow.alloc _) ⟨W.heap.size, 0, none⟩ 1 1 [.int .i64 x] rfl rfl (cell_one_new _ _ _) (by simp [Value.oneCell']) (by unfold maxLen; omega) (by omega) (by simp; omega) ?_; intro v' w1 hown' hgrow _; obtain ⟨g', cap', rfl⟩ := ownsRow_succ hown'; obtain ⟨hv1, hv2, hr2, hk2, hb2⟩ := grown_append hv hrow hsW hown' hgrow; have hc1 := hv1.cell; have hf1 := hv1.frozen; have hc2 := hv2.cell; have hcl2 := ((hkp.trans hb2).boxed (by omega) (by omega) bL5).cell)
      exact ⟨hk2.from _, ⟨_, hv2, by simpa using hr2⟩, ⟨rfl, by simp; omega⟩, hkp.trans hb2⟩
  case done =>
    rintro D ys W hD rfl ⟨⟨v, hv, hrow, _⟩, hlen, hkp⟩ hK
    obtain ⟨kk, hkk⟩ : ∃ kk, kk = cnt fr (m : Int) := ⟨_, rfl⟩
    rw [← hkk] at hrow hlen
    rw [upto_length] at hrow hlen
    have hk1 : kk ≤ cnt fr (m : Int) := by omega
    have hk2 : (kk : Int) ≤ lim := by omega
    have hk3 : kk = cnt fr (m : Int) ∨ (kk : Int) = lim := .inl hkk
    clear hkk hlen
    have HK3 := hide hk3
    clear hk3
    have hkk0 : W2.heap.size + 6 ≤ W.heap.size := by have := hkp.2.2.2.1; omega
    have hcl := (hkp.boxed (by omega) (by omega) bL5).cell
    have hvw : W.heap[W2.heap.size]? = some (.cells #[.int .i64 0, .int .i32 0, .slice none 0 0, .slice (some ⟨w.heap.size + 1, 0, none⟩) m m, .slice none 0 0, .slice none 0 0, .pointer none, .slice none 0 0, .string ⟨#[]⟩, .string ⟨#[]⟩, .slice none 0 0, .slice none 0 0, .slice none 0 0, .int .u8 0] 40 (0, 0)) := by rw [hkp.2.2.2.2 _ (by omega) (by omega), hK5.block _ (by omega)]; exact hV
    have hBW : Below w.heap.size w W := ⟨hkp.1.trans (hK5.os.trans hB4.os), hkp.2.1.trans (hK5.tape.trans hB4.tape), hkp.2.2.1.trans (hK5.output.trans hB4.output), Nat.le_trans hB4.size (Nat.le_trans hK5.size hkp.2.2.2.1), fun j hj => (hkp.2.2.2.2 j (by omega) (by omega)).trans ((hK5.block j (by omega)).trans (hB4.block j hj))⟩
    have hDW : D < W.heap.size := (Array.getElem?_eq_some_iff.1 hK).1
    obtain ⟨a', cp', rfl, hi1⟩ := own_irow' hrow
    gi_wp2
    gi_loopw [13, 14] (fun u i wr => ∃ j : Nat, j ≤ kk ∧ i = .int .i64 (fr + (j : Int)) ∧ wr.ownsRow W.heap.size 3 1 u j ((upto (fun j => fr + (j : Int)) j).map (Value.int .i64)) ∧ Below W.heap.size W wr)
      (fun _ i _ => (fr + (kk : Int) - intOf i).toNat)
    case atStart => exact ⟨0, Nat.zero_le _, by simp, World.ownsRow_nil _ _ _ _, Below.refl _ _⟩
    case round =>
      obtain ⟨j, hj, rfl, hrj, hbj⟩ := hrel
      have hcl2 : wr.cell? ⟨w.heap.size, 0, none⟩ = some (.int .i64 lim) := (hbj.cell (p := ⟨w.heap.size, 0, none⟩) (by show w.heap.size < W.heap.size; omega)).trans hcl
      obtain ⟨ao, cap, rfl, hir⟩ := own_irow' hrj
      by_cases hlt : j < kk
      · have l1 : fr + (j : Int) < (m : Int) := by unfold cnt at hk1; omega
        have l2 : (j : Int) < lim := by omega
        gi_wp2_with (gi_at_builtin; refine wpListIn_append_own _ rfl _ _ 41 rfl W.heap.size 3 i3 (.int .i64 0) 1 8 Yba.underlying41 hi3 hy0 hy1 hy2 rfl (by decide) _ _ _ rfl (hrj.alloc _) ⟨wr.heap.size, 0, none⟩ 1 1 [.int .i64 (fr + (j : Int))] rfl rfl (cell_one_new _ _ _) (by simp [Value.oneCell']) (by unfold maxLen; omega) (by omega) (by have := hbj.size; simp; omega) ?_; intro v' w1 hown' hgrow _)
        go_roundw
        case rel => exact ⟨j + 1, by omega, by go_num, by rw [upto_succ]; simpa using hown', below_row hbj hrj hgrow⟩
        case measure => simp [intOf]; omega
      · obtain rfl : kk = j := by omega
        have hi2 := hi1.below hbj
        have hgw : wr.cell? ⟨W2.heap.size + 1, 0, none⟩ = some (.slice a' kk cp') := (hbj.cell (p := ⟨W2.heap.size + 1, 0, none⟩) (by show W2.heap.size + 1 < W.heap.size; omega)).trans hv.cell
        have hvr := (hbj.block W2.heap.size (by omega)).trans hvw
        have hv3 : wr.cell? ⟨W2.heap.size, 3, none⟩ = some (.slice (some ⟨w.heap.size + 1, 0, none⟩) m m) := by rw [cell_of_row wr _ _ _ 40 (0, 0) hvr]; rfl
        have hv6 : wr.cell? ⟨W2.heap.size, 6, none⟩ = some (.pointer Option.none) := by rw [cell_of_row wr _ _ _ 40 (0, 0) hvr]; rfl
        have hKr := (hbj.block D hDW).trans hK
        have hBr : Below w.heap.size w wr := hBW.trans (hbj.mono hBW.size)
        have HVR := hide hvr
        have HVW := hide hvw
        clear hvr hvw hV
        by_cases hend : fr + (kk : Int) < (m : Int)
        · have hl : ¬ (kk : Int) < lim := by
            rcases (unhide HK3) with h | h
            · unfold cnt at h; omega
            · omega
          gi_wp2_with (refine ⟨trivial, ?_⟩; gi_at_call 7; refine (callsIn_wide.2 (eq_n a' ao cp' cap (upto (fun j => fr + (j : Int)) kk) kk (upto_length _ _) wr hi2 hir (by omega))).mono ?_; rintro e w' ⟨rfl, nq, rfl⟩)
          refine ⟨by simp, .inl ⟨_, _, rfl, run_takeDeferred hKr, ?_⟩⟩
          exact ⟨_, results_tmp rfl _ _ _, rfl, (Below.trans (b := wr.drewN nq) ⟨hBr.os, hBr.tape, hBr.output, hBr.size, hBr.block⟩ (belowK_b (w := w) (Nat.le_refl _) (wr.drewN nq) D (.deferred (some [])) _ (by have := hBr.size; have := hBW.size; omega) (by exact hKr) rfl rfl))⟩
        · gi_wp2_with (refine ⟨trivial, ?_⟩; gi_at_call 7; refine (callsIn_wide.2 (eq_n a' ao cp' cap (upto (fun j => fr + (j : Int)) kk) kk (upto_length _ _) wr hi2 hir (by omega))).mono ?_; rintro e w' ⟨rfl, nq, rfl⟩)
          refine ⟨by simp, .inl ⟨_, _, rfl, run_takeDeferred hKr, ?_⟩⟩
          exact ⟨_, results_tmp rfl _ _ _, rfl, (Below.trans (b := wr.drewN nq) ⟨hBr.os, hBr.tape, hBr.output, hBr.size, hBr.block⟩ (belowK_b (w := w) (Nat.le_refl _) (wr.drewN nq) D (.deferred (some [])) _ (by have := hBr.size; have := hBW.size; omega) (by exact hKr) rfl rfl))⟩
  case stop =>
    rintro D c pre W hD ⟨kk, hk1, rfl⟩ ⟨⟨v, hv, hrow, _⟩, ⟨rfl, hlen⟩, hkp⟩ hK
    rw [upto_length] at hrow hlen
    have hk2 : (kk : Int) ≤ lim := by omega
    have hk3 : kk = cnt fr (m : Int) ∨ (kk : Int) = lim := .inr hlen
    clear hlen
    have HK3 := hide hk3
    clear hk3
    have hkk0 : W2.heap.size + 6 ≤ W.heap.size := by have := hkp.2.2.2.1; omega
    have hcl := (hkp.boxed (by omega) (by omega) bL5).cell
    have hvw : W.heap[W2.heap.size]? = some (.cells #[.int .i64 0, .int .i32 0, .slice none 0 0, .slice (some ⟨w.heap.size + 1, 0, none⟩) m m, .slice none 0 0, .slice none 0 0, .pointer none, .slice none 0 0, .string ⟨#[]⟩, .string ⟨#[]⟩, .slice none 0 0, .slice none 0 0, .slice none 0 0, .int .u8 0] 40 (0, 0)) := by rw [hkp.2.2.2.2 _ (by omega) (by omega), hK5.block _ (by omega)]; exact hV
    have hBW : Below w.heap.size w W := ⟨hkp.1.trans (hK5.os.trans hB4.os), hkp.2.1.trans (hK5.tape.trans hB4.tape), hkp.2.2.1.trans (hK5.output.trans hB4.output), Nat.le_trans hB4.size (Nat.le_trans hK5.size hkp.2.2.2.1), fun j hj => (hkp.2.2.2.2 j (by omega) (by omega)).trans ((hK5.block j (by omega)).trans (hB4.block j hj))⟩
    have hDW : D < W.heap.size := (Array.getElem?_eq_some_iff.1 hK).1
    obtain ⟨a', cp', rfl, hi1⟩ := own_irow' hrow
    gi_wp2
    gi_loopw [13, 14] (fun u i wr => ∃ j : Nat, j ≤ kk ∧ i = .int .i64 (fr + (j : Int)) ∧ wr.ownsRow W.heap.size 3 1 u j ((upto (fun j => fr + (j : Int)) j).map (Value.int .i64)) ∧ Below W.heap.size W wr)
      (fun _ i _ => (fr + (kk : Int) - intOf i).toNat)
    case atStart => exact ⟨0, Nat.zero_le _, by simp, World.ownsRow_nil _ _ _ _, Below.refl _ _⟩
    case round =>
      obtain ⟨j, hj, rfl, hrj, hbj⟩ := hrel
      have hcl2 : wr.cell? ⟨w.heap.size, 0, none⟩ = some (.int .i64 lim) := (hbj.cell (p := ⟨w.heap.size, 0, none⟩) (by show w.heap.size < W.heap.size; omega)).trans hcl
      obtain ⟨ao, cap, rfl, hir⟩ := own_irow' hrj
      by_cases hlt : j < kk
      · have l1 : fr + (j : Int) < (m : Int) := by unfold cnt at hk1; omega
        have l2 : (j : Int) < lim := by omega
        gi_wp2_with (gi_at_builtin; refine wpListIn_append_own _ rfl _ _ 41 rfl W.heap.size 3 i3 (.int .i64 0) 1 8 Yba.underlying41 hi3 hy0 hy1 hy2 rfl (by decide) _ _ _ rfl (hrj.alloc _) ⟨wr.heap.size, 0, none⟩ 1 1 [.int .i64 (fr + (j : Int))] rfl rfl (cell_one_new _ _ _) (by simp [Value.oneCell']) (by unfold maxLen; omega) (by omega) (by have := hbj.size; simp; omega) ?_; intro v' w1 hown' hgrow _)
        go_roundw
        case rel => exact ⟨j + 1, by omega, by go_num, by rw [upto_succ]; simpa using hown', below_row hbj hrj hgrow⟩
        case measure => simp [intOf]; omega
      · obtain rfl : kk = j := by omega
        have hi2 := hi1.below hbj
        have hgw : wr.cell? ⟨W2.heap.size + 1, 0, none⟩ = some (.slice a' kk cp') := (hbj.cell (p := ⟨W2.heap.size + 1, 0, none⟩) (by show W2.heap.size + 1 < W.heap.size; omega)).trans hv.cell
        have hvr := (hbj.block W2.heap.size (by omega)).trans hvw
        have hv3 : wr.cell? ⟨W2.heap.size, 3, none⟩ = some (.slice (some ⟨w.heap.size + 1, 0, none⟩) m m) := by rw [cell_of_row wr _ _ _ 40 (0, 0) hvr]; rfl
        have hv6 : wr.cell? ⟨W2.heap.size, 6, none⟩ = some (.pointer Option.none) := by rw [cell_of_row wr _ _ _ 40 (0, 0) hvr]; rfl
        have hKr := (hbj.block D hDW).trans hK
        have hBr : Below w.heap.size w wr := hBW.trans (hbj.mono hBW.size)
        have HVR := hide hvr
        have HVW := hide hvw
        clear hvr hvw hV
        by_cases hend : fr + (kk : Int) < (m : Int)
        · have hl : ¬ (kk : Int) < lim := by
            rcases (unhide HK3) with h | h
            · unfold cnt at h; omega
            · omega
          gi_wp2_with (refine ⟨trivial, ?_⟩; gi_at_call 7; refine (callsIn_wide.2 (eq_n a' ao cp' cap (upto (fun j => fr + (j : Int)) kk) kk (upto_length _ _) wr hi2 hir (by omega))).mono ?_; rintro e w' ⟨rfl, nq, rfl⟩)
          refine ⟨by simp, .inl ⟨_, _, rfl, run_takeDeferred hKr, ?_⟩⟩
          exact ⟨_, results_tmp rfl _ _ _, rfl, (Below.trans (b := wr.drewN nq) ⟨hBr.os, hBr.tape, hBr.output, hBr.size, hBr.block⟩ (belowK_b (w := w) (Nat.le_refl _) (wr.drewN nq) D (.deferred (some [])) _ (by have := hBr.size; have := hBW.size; omega) (by exact hKr) rfl rfl))⟩
        · gi_wp2_with (refine ⟨trivial, ?_⟩; gi_at_call 7; refine (callsIn_wide.2 (eq_n a' ao cp' cap (upto (fun j => fr + (j : Int)) kk) kk (upto_length _ _) wr hi2 hir (by omega))).mono ?_; rintro e w' ⟨rfl, nq, rfl⟩)
          refine ⟨by simp, .inl ⟨_, _, rfl, run_takeDeferred hKr, ?_⟩⟩
          exact ⟨_, results_tmp rfl _ _ _, rfl, (Below.trans (b := wr.drewN nq) ⟨hBr.os, hBr.tape, hBr.output, hBr.size, hBr.block⟩ (belowK_b (w := w) (Nat.le_refl _) (wr.drewN nq) D (.deferred (some [])) _ (by have := hBr.size; have := hBW.size; omega) (by exact hKr) rfl rfl))⟩

#print axioms all_any
end Go.Proofs.Ybulkbsds
