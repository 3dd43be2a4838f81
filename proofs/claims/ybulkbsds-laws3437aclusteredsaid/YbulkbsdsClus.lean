/-
  The law's own walk: LawS3437AClustered.
-/
import Derived.Test.YbulkbsdsBuilt
namespace Go.Proofs.Ybulkbsds
open Go.RowKit Go.Shelf

attribute [local go_sem] Oper.semAt_some

theorem infos51 : (Yba.prog.info? 51).map (fun i => (i.zero, i.size, i.bytes)) = some (some (.slice none 0 0), 1, 24) := by kernel_rfl
theorem infos21 : (Yba.prog.info? 21).map (fun i => (i.zero, i.size, i.bytes)) = some (some (.int .i32 0), 1, 4) := by kernel_rfl

theorem built_zero {w w1 : World} {L : Nat} {Ln : Nat → Nat} {z : Nat → Nat → Int} (h : w1.ownsRow w.heap.size 51 1 (.slice (some ⟨w.heap.size, 0, none⟩) L L) L (madeCells (Value.slice none 0 0).cells (L * 1)).toList) (hg : w.grownBy w1 none) :
    Built w w1 L 0 Ln z (List.replicate L (.slice none 0 0)) := by
  have e : (madeCells (Value.slice none 0 0).cells (L * 1)).toList = List.replicate L (.slice none 0 0) := by
    rw [Nat.mul_one]; exact toList_madeCells_one _ _
  rw [e] at h
  exact ⟨h, (Below.refl _ w).grown hg (Nat.le_refl _) (fun k e => by cases e), fun q hq => by omega, fun q _ hq => by simp [hq]⟩

theorem Deltas.below {w wr : World} {ao : Option Addr} {len : Nat} {A : Nat → Option Addr} {Ln C : Nat → Nat} {z : Nat → Nat → Int} (h : Deltas w ao len A Ln C z) (hb : Below w.heap.size w wr) : Deltas wr ao len A Ln C z := by
  intro r hr
  obtain ⟨a, h1, h2, h3⟩ := h r hr
  refine ⟨a, h1, (hb.cell (World.block_lt_of_cell? w _ h2)).trans h2, fun c hc => ?_⟩
  obtain ⟨a', h4, h5, h6⟩ := h3 c hc
  exact ⟨a', h4, (hb.cell (World.block_lt_of_cell? w _ h5)).trans h5, h6⟩

theorem Deltas.bounds {w : World} {ao : Option Addr} {len : Nat} {A : Nat → Option Addr} {Ln C : Nat → Nat} {z : Nat → Nat → Int} (h : Deltas w ao len A Ln C z) : ∀ r, r < len → ∀ c, c < Ln r → 0 ≤ z r c ∧ z r c ≤ 255 := by
  intro r hr c hc
  obtain ⟨a, h1, h2, h3⟩ := h r hr
  obtain ⟨a', h4, h5, h6⟩ := h3 c hc
  exact h6

theorem limit_lm (F : Fence) (n : Nat) (h5 : F.fn 5) (hro : F.round = none) (s : Int) (lm : Nat) (hs0 : 0 ≤ s) (hs1 : s ≤ 255) (hlim : Hid ((lm : Int) = (if s = 0 then 1048576 else s))) (w : World) :
    CallsIn F n Yba.prog 5 #[.int .u8 s] w fun e w' => e = .returned (.int .i64 (lm : Int)) ∧ w = w' := by
  refine (limit_in F n h5 hro s hs0 hs1 w).mono ?_
  rintro e w' ⟨rfl, rfl⟩
  exact ⟨by rw [unhide hlim], rfl⟩

theorem three_new (W : World) (o1 o2 : Obj) (t : TypeId) (v : Value) : (((W.alloc o1).alloc o2).alloc (.cells #[v] t)).heap.size = W.heap.size + 3 ∧ (((W.alloc o1).alloc o2).alloc (.cells #[v] t)).heap[W.heap.size]? = some o1 ∧
    (((W.alloc o1).alloc o2).alloc (.cells #[v] t)).heap[W.heap.size + 1]? = some o2 ∧ Boxed (((W.alloc o1).alloc o2).alloc (.cells #[v] t)) (W.heap.size + 1 + 1) t v ∧ Below W.heap.size W (((W.alloc o1).alloc o2).alloc (.cells #[v] t)) := by
  have e1 : (W.alloc o1).heap.size = W.heap.size + 1 := by simp
  have e2 : ((W.alloc o1).alloc o2).heap.size = W.heap.size + 1 + 1 := by simp
  refine ⟨by simp, ?_, ?_, ?_, ?_⟩
  · rw [Below.heap_alloc _ _ _ (by omega), Below.heap_alloc _ _ _ (by omega)]; exact heap_alloc_new W _
  · rw [Below.heap_alloc _ _ _ (by omega), ← e1]; exact heap_alloc_new _ _
  · have := Boxed.new ((W.alloc o1).alloc o2) t v
    rw [e2] at this
    exact this
  · exact (((Below.refl _ W).alloc (Nat.le_refl _) _).alloc (by omega) _).alloc (by omega) _

theorem four_new (W : World) (H : Nat) (hH : W.heap.size = H) (t0 t1 t2 t3 : TypeId) (v0 v1 v2 v3 : Value) : ((((W.alloc (.cells #[v0] t0)).alloc (.cells #[v1] t1)).alloc (.cells #[v2] t2)).alloc (.cells #[v3] t3)).heap.size = H + 4 ∧
    Boxed ((((W.alloc (.cells #[v0] t0)).alloc (.cells #[v1] t1)).alloc (.cells #[v2] t2)).alloc (.cells #[v3] t3)) H t0 v0 ∧ Boxed ((((W.alloc (.cells #[v0] t0)).alloc (.cells #[v1] t1)).alloc (.cells #[v2] t2)).alloc (.cells #[v3] t3)) (H + 1) t1 v1 ∧
    Boxed ((((W.alloc (.cells #[v0] t0)).alloc (.cells #[v1] t1)).alloc (.cells #[v2] t2)).alloc (.cells #[v3] t3)) (H + 1 + 1) t2 v2 ∧ Boxed ((((W.alloc (.cells #[v0] t0)).alloc (.cells #[v1] t1)).alloc (.cells #[v2] t2)).alloc (.cells #[v3] t3)) (H + 1 + 1 + 1) t3 v3 ∧
    Below W.heap.size W ((((W.alloc (.cells #[v0] t0)).alloc (.cells #[v1] t1)).alloc (.cells #[v2] t2)).alloc (.cells #[v3] t3)) := by
  subst hH
  have b0 := (((Boxed.new W t0 v0).alloc (.cells #[v1] t1)).alloc (.cells #[v2] t2)).alloc (.cells #[v3] t3)
  have b1 := ((Boxed.new (W.alloc (.cells #[v0] t0)) t1 v1).alloc (.cells #[v2] t2)).alloc (.cells #[v3] t3)
  have b2 := (Boxed.new ((W.alloc (.cells #[v0] t0)).alloc (.cells #[v1] t1)) t2 v2).alloc (.cells #[v3] t3)
  have b3 := Boxed.new (((W.alloc (.cells #[v0] t0)).alloc (.cells #[v1] t1)).alloc (.cells #[v2] t2)) t3 v3
  rw [World.size_alloc] at b1
  rw [World.size_alloc, World.size_alloc] at b2
  rw [World.size_alloc, World.size_alloc, World.size_alloc] at b3
  exact ⟨by simp, b0, b1, b2, b3, ((((Below.refl _ W).alloc (Nat.le_refl _) _).alloc (by simp) _).alloc (by simp; omega) _).alloc (by simp; omega) _⟩

theorem IRow32.moved {w w' : World} {ao : Option Addr} {xs : List Int} (h : IRow32 w ao xs) (hc : ∀ b i, b < w.heap.size → w'.cell? ⟨b, i, none⟩ = w.cell? ⟨b, i, none⟩) : IRow32 w' ao xs := fun h0 => by
  obtain ⟨b, e, hb⟩ := h h0
  exact ⟨b, e, fun i hi => (hc b i (World.block_lt_of_cell? w _ (hb i hi))).trans (hb i hi)⟩

set_option maxRecDepth 100000 in
set_option maxHeartbeats 4000000 in
theorem clus_pos (ao : Option Addr) (len cap : Nat) (A : Nat → Option Addr) (Ln C : Nat → Nat) (z : Nat → Nat → Int) (kk n : Nat) (fr s : Int) (hlen : len ≤ 1024) (hpos : 0 < len) (hkk : kk ≤ 65535) (hn : n ≤ 255) (hf0 : -1024 ≤ fr) (hf1 : fr ≤ 1024) (hs0 : 0 ≤ s) (hs1 : s ≤ 255) (w : World)
    (hD : Deltas w ao len A Ln C z) :
    Calls Yba.prog 4 #[.slice ao len cap, .int .u16 (kk : Int), .int .i64 fr, .int .u8 (n : Int), .int .u8 s] w fun e w' => e = .returned (.bool true) ∧ Below w.heap.size w w' := by
  have hfr0 : ¬ fr < -1024 := by omega
  have hfr1 : ¬ 1024 < fr := by omega
  have hlen' : ¬ (1024 : Int) < (len : Int) := by omega
  obtain ⟨i0, z0, hi0, hz0, hz1, hz2⟩ := info86
  have hmb : i0.bytes * n ≤ 281474976710656 := Nat.le_trans (Nat.mul_le_mul hz2 hn) (by omega)
  obtain ⟨i51, hi51, hy51, hx51, hb51⟩ := info_parts infos51
  obtain ⟨i21, hi21, hy21, hx21, hb21⟩ := info_parts infos21
  obtain ⟨lm, hlim⟩ : ∃ lm : Nat, (lm : Int) = (if s = 0 then 1048576 else s) := ⟨(if s = 0 then 1048576 else s).toNat, by split <;> omega⟩
  have hl1 : 1 ≤ lm := by have := hlim; split at this <;> omega
  have hl2 : lm ≤ 1048576 := by have := hlim; split at this <;> omega
  have HLI := hide hlim
  clear hlim
  have HD := hide hD
  clear hD
  have hLL : 1 ≤ len ∧ len ≤ 1024 ∧ len ≤ len := by omega
  have hz : ((len : Int) == 0) = false := by simp; omega
  have h51 : i51.bytes * len ≤ 281474976710656 := by rw [hb51]; omega
  refine (callsIn_wide (n := 6)).1 ?_
  refine callsIn_of_wp_marks Yba.func4 rfl trivial ?_ rfl
  simp only [Yba.ntmps4, List.size_toArray, List.length_cons, List.length_nil, Nat.reduceAdd, Nat.reduceSub, Array.replicate_succ, Array.replicate_zero, List.push_toArray, List.append_toArray, List.nil_append, List.cons_append]
  gi_wp2_with fail
  gi_loopw [41] (fun i wr => w = wr ∧ ∃ r : Nat, r ≤ len ∧ i = .int .i64 (r : Int) ∧ Hid (∀ q, q < r → Ln q ≤ 1024)) (fun i _ => ((len : Int) - intOf i).toNat)
  case atStart => exact ⟨rfl, 0, Nat.zero_le _, rfl, fun q hq => by omega⟩
  case round =>
    obtain ⟨heqw, r, hr, rfl, hle⟩ := hrel
    subst heqw
    by_cases hlt : r < len
    · have hlt' : (r : Int) < (len : Int) := by omega
      obtain ⟨a, rfl, hc, _⟩ := (unhide HD) r hlt
      by_cases hbig : Ln r ≤ 1024
      · have hbig' : ¬ (1024 : Int) < (Ln r : Int) := by omega
        gi_wp2_with fail
        go_roundw
        case rel => exact ⟨trivial, r + 1, by omega, by go_num, fun q hq => by
          by_cases hq' : q = r
          · subst hq'; exact hbig
          · exact (unhide hle) q (by omega)⟩
        case measure => simp [intOf]; omega
      · have hbig' : (1024 : Int) < (Ln r : Int) := by omega
        gi_wp2_with fail
        exact ⟨_, results_tmp rfl _ _ _, rfl, Below.refl _ _⟩
    · have hrl : len = r := by omega
      subst hrl
      have hge : ¬ (len : Int) < (len : Int) := by omega
      gi_wp2_with (gi_at_make; refine wpListIn_make_row _ rfl _ _ 50 rfl w.heap.size 51 i51 (.slice none 0 0) 1 Yba.underlying50 hi51 hy51 hx51 _ _ _ _ len rfl rfl rfl rfl h51 (by unfold maxLen; omega) (Nat.le_refl _) ?_; intro W1 hown1 hg1)
      have B0 := built_zero (Ln := Ln) (z := z) hown1 hg1
      have HG1 := hide hg1
      clear hg1 hown1
      gi_loopw [57] (fun i wr => ∃ (r : Nat) (vs : List Value), r ≤ len ∧ i = .int .i64 (r : Int) ∧ Built w wr len r Ln z vs) (fun i _ => ((len : Int) - intOf i).toNat)
      case atStart => exact ⟨0, _, Nat.zero_le _, rfl, B0⟩
      case round =>
        obtain ⟨r, vs, hr2, rfl, hB⟩ := hrel
        by_cases hlt2 : r < len
        · have hlt2' : (r : Int) < (len : Int) := by omega
          obtain ⟨a, hao, hc2, hin⟩ := ((unhide HD).below hB.below) r hlt2
          have hLr := (unhide hle) r hlt2
          subst hao
          have HIN := hide hin
          clear hin
          gi_wp2_with fail
          obtain ⟨wr0, hwr0⟩ : ∃ x, x = wr := ⟨_, rfl⟩
          gi_loopw [17, 64] (fun c i wi => ∃ (k : Nat) (vs : List Value) (v : Value), k ≤ Ln r ∧ c = .int .i32 (cur (z r) k) ∧ i = .int .i64 (k : Int) ∧ Mid w wi len r wr0.heap.size k Ln z vs v) (fun _ i _ => ((Ln r : Int) - intOf i).toNat)
          case atStart => exact ⟨0, _, _, Nat.zero_le _, rfl, rfl, by rw [hwr0]; exact hB.mid (by omega)⟩
          case round =>
            obtain ⟨k, vs, v, hk, rfl, rfl, hM⟩ := hrel
            by_cases hlt3 : k < Ln r
            · have hlt3' : (k : Int) < (Ln r : Int) := by omega
              obtain ⟨a', ha', hc3, hz3, hz4⟩ := ((unhide HD).below hM.below r hlt2).choose_spec.2.2 k hlt3
              rw [ha'] at *
              have hcu := cur_bounds ((unhide HD).bounds r hlt2) k hk
              have hcs : cur (z r) (k + 1) = cur (z r) k + (z r k + 1) := rfl
              have hcv := hM.cell (by omega : r < len)
              gi_wp2_with (gi_at_builtin; refine wpListIn_append_own _ rfl _ _ 51 rfl wr0.heap.size 21 i21 (.int .i32 0) 1 4 Yba.underlying51 hi21 hy21 hx21 hb21 rfl (by decide) _ _ _ rfl (hM.row.alloc _) ⟨wr.heap.size, 0, none⟩ 1 1 [.int .i32 (cur (z r) k + (z r k + 1))] rfl rfl (cell_one_new _ _ _) (by simp [Value.oneCell']) (by unfold maxLen; omega) (by omega) (by have := hM.big'; simp; omega) ?_; intro v' w1 hown' hgrow _; obtain ⟨g', cap', rfl⟩ := ownsRow_succ hown'; obtain ⟨hw1, hw2, hM2⟩ := hM.step (by omega : r < len) hown' hgrow)
              go_roundw
              case rel => exact ⟨k + 1, _, _, by omega, by first | rfl | go_num, by go_num, hM2⟩
              case measure => simp [intOf]; omega
            · obtain rfl : k = Ln r := by omega
              have hge3 : ¬ ((Ln r : Nat) : Int) < (Ln r : Int) := by omega
              gi_wp2_with fail
              go_roundw
              case rel => exact ⟨r + 1, _, by omega, by go_num, hM.built⟩
              case measure => simp [intOf]; omega
        · have hrl : len = r := by omega
          subst hrl
          have HLE := hide (unhide hle)
          clear hle hr
          obtain ⟨k0, hk0, hk1⟩ : ∃ k0 : Nat, (kk : Int) % (len : Int) = (k0 : Int) ∧ k0 < len := ⟨kk % len, by omega, Nat.mod_lt _ hpos⟩
          obtain ⟨v, xs, hcv, hgood, hrow⟩ := hB.pick (k := k0) (by omega) (unhide HLE) ((unhide HD).bounds)
          obtain ⟨ao2, cap2, rfl, hir, _, _⟩ := (hrow wr.heap.size wr.heap.size (Nat.le_refl _) (Nat.le_refl _)).irow
          have HIR := hide hir
          clear hir
          have hBw := hB.below
          have hBs := (own_lt hB.lists _ rfl).2
          have HB := hide hB
          have HROW := hide hrow
          have HGD := hide hgood
          clear hB hrow hgood
          gi_wp2_with (first
            | (refine ⟨trivial, ?_⟩; gi_at_call 5; refine (limit_lm Fence.wide _ trivial rfl s lm hs0 hs1 HLI _).mono ?_; rintro e w' ⟨rfl, rfl⟩)
            | (gi_at_make; refine wpListIn_make_full _ rfl _ _ 24 rfl wr.heap.size 86 i0 z0 4 Yba.underlying24 hi0 hz0 hz1 _ _ _ _ n rfl rfl rfl rfl hmb (by unfold maxLen; omega) (by simp) ?_))
          intro W2 hlt2 hg2
          have bL : Boxed W2 wr.heap.size 3 (.int .i64 (lm : Int)) := (Boxed.new wr 3 (.int .i64 (lm : Int))).kept hg2 (by simp)
          have hB2 : Below wr.heap.size wr W2 := ((Below.refl _ wr).alloc (Nat.le_refl _) _).grown hg2 (by simp) (fun k e => by cases e)
          have HG2 := hide hg2
          clear hg2
          gi_wp2_with fail
          obtain ⟨hs4, hC4, hV4, bG4, hK4⟩ := three_new W2 (.cells #[.int .i32 (len : Int), .slice none 0 0, .slice (some ⟨w.heap.size, 0, none⟩) len len, .slice none 0 0, .slice none 0 0] 55) (.cells #[.int .i64 0, .int .i32 0, .slice none 0 0, .slice (some ⟨wr.heap.size + 1, 0, none⟩) n n, .slice none 0 0, .slice none 0 0, .pointer (some ⟨W2.heap.size, 0, none⟩), .slice none 0 0, .string ⟨#[]⟩, .string ⟨#[]⟩, .slice none 0 0, .slice none 0 0, .slice none 0 0, .int .u8 0] 40) 41 (.slice none 0 0)
          have bL4 : Boxed (((W2.alloc (.cells #[.int .i32 (len : Int), .slice none 0 0, .slice (some ⟨w.heap.size, 0, none⟩) len len, .slice none 0 0, .slice none 0 0] 55)).alloc (.cells #[.int .i64 0, .int .i32 0, .slice none 0 0, .slice (some ⟨wr.heap.size + 1, 0, none⟩) n n, .slice none 0 0, .slice none 0 0, .pointer (some ⟨W2.heap.size, 0, none⟩), .slice none 0 0, .string ⟨#[]⟩, .string ⟨#[]⟩, .slice none 0 0, .slice none 0 0, .slice none 0 0, .int .u8 0] 40)).alloc (.cells #[.slice none 0 0] 41)) wr.heap.size 3 (.int .i64 (lm : Int)) := (hK4.block _ (by omega)).trans bL
          have hB4 := hB2.trans (hK4.mono (by omega))
          generalize ((W2.alloc (.cells #[.int .i32 (len : Int), .slice none 0 0, .slice (some ⟨w.heap.size, 0, none⟩) len len, .slice none 0 0, .slice none 0 0] 55)).alloc (.cells #[.int .i64 0, .int .i32 0, .slice none 0 0, .slice (some ⟨wr.heap.size + 1, 0, none⟩) n n, .slice none 0 0, .slice none 0 0, .pointer (some ⟨W2.heap.size, 0, none⟩), .slice none 0 0, .string ⟨#[]⟩, .string ⟨#[]⟩, .slice none 0 0, .slice none 0 0, .slice none 0 0, .int .u8 0] 40)).alloc (.cells #[.slice none 0 0] 41) = W4 at *
          have HC4 := hide hC4
          have HV4 := hide hV4
          clear hC4 hV4
          refine ⟨trivial, ?_⟩
          refine (conds_inC Fence.wide _ trivial trivial rfl (by omega) (W2.heap.size + 1) W2.heap.size k0 fr (some ⟨wr.heap.size + 1, 0, none⟩) n n (some ⟨w.heap.size, 0, none⟩) len len W4 (by rw [cell_of_row W4 _ _ _ 40 (0, 0) (unhide HV4)]; rfl) (by rw [cell_of_row W4 _ _ _ 55 (0, 0) (unhide HC4)]; rfl) (by rw [cell_of_row W4 _ _ _ 40 (0, 0) (unhide HV4)]; rfl)).mono ?_
          rintro e w' ⟨rfl, rfl⟩
          obtain ⟨hs5, b0, b1, b2, b3, hK5⟩ := four_new W4 (W2.heap.size + 3) hs4 50 21 3 3 (.slice (some ⟨w.heap.size, 0, none⟩) len len) (.int .i32 (k0 : Int)) (.int .i64 fr) (.int .i64 (n : Int))
          have bG5 := (hK5.block _ (by omega)).trans bG4
          have bL5 := (hK5.block _ (by omega)).trans bL4
          gi_wp2_with fail
          try simp only [hs4]
          generalize (((W4.alloc (.cells #[.slice (some ⟨w.heap.size, 0, none⟩) len len] 50)).alloc (.cells #[.int .i32 (k0 : Int)] 21)).alloc (.cells #[.int .i64 fr] 3)).alloc (.cells #[.int .i64 (n : Int)] 3) = W5 at *
          obtain ⟨i3, hi3, hy0, hy1, hy2⟩ := info_parts infos3
          have hxl : xs.length ≤ 1024 := (unhide HGD).len
          have hfl := from_len fr xs
          have hK5' : Below wr.heap.size wr W5 := hB4.trans (hK5.mono (by omega))
          refine wpIn_rangeFunc_ownG rfl (by omega) (gf := 9) (lb := #[.pointer (some ⟨W2.heap.size + 3, 0, none⟩), .pointer (some ⟨W2.heap.size + 3 + 1 + 1, 0, none⟩), .pointer (some ⟨W2.heap.size + 3 + 1 + 1 + 1, 0, none⟩), .pointer (some ⟨W2.heap.size + 3 + 1, 0, none⟩)]) rfl trivial (enters_of Yba.func9 (by kernel_rfl) rfl)
            (lists_stops (6 - 1) (by omega) (W2.heap.size + 3) (W2.heap.size + 3 + 1 + 1) (W2.heap.size + 3 + 1 + 1 + 1) (W2.heap.size + 3 + 1) (W2.heap.size + 3 + 4) (W2.heap.size + 1 + 1) w.heap.size len k0 len fr _ xs hf0 hf1 (by omega) (by omega) (unhide HGD).sort (unhide HGD).bound W5 b0.cell b2.cell b1.cell ((hK5'.cell (p := ⟨w.heap.size, k0, none⟩) hBs).trans hcv)
              (((unhide HROW) (W2.heap.size + 3 + 4) (W2.heap.size + 1 + 1) (by omega) (by omega)).moved (fun b i _ _ hb => hK5'.cell (p := ⟨b, i, none⟩) hb)))
            Kept.trans (keptK_b (by omega)) (Below.refl _ _) (fun _ => rfl)
            (fun pre W => (∃ v, Boxed W (W2.heap.size + 1 + 1) 41 v ∧ W.ownsRow (W2.heap.size + 3 + 4) 3 1 v pre.length (pre.map (Value.int .i64)) ∧ True) ∧ (pre.length < lm ∧ Kept (W2.heap.size + 3 + 4) (W2.heap.size + 1 + 1) W5 W))
            (fun c pre W => (∃ v, Boxed W (W2.heap.size + 1 + 1) 41 v ∧ W.ownsRow (W2.heap.size + 3 + 4) 3 1 v pre.length (pre.map (Value.int .i64)) ∧ True) ∧ ((c = .exit 6 ∧ pre.length = lm) ∧ Kept (W2.heap.size + 3 + 4) (W2.heap.size + 1 + 1) W5 W))
            (OwnFrom.and (Own.from (holdsRow_own (W2.heap.size + 3 + 4) (W2.heap.size + 1 + 1) 41 3 1 (fun pre : List Int => pre.length) (fun pre => pre.map (Value.int .i64)) (fun _ _ => True)) _) (ownFrom_kept (fun pre : List Int => pre.length < lm) (by omega) (by omega)))
            (fun c => OwnFrom.and (Own.from (holdsRow_own (W2.heap.size + 3 + 4) (W2.heap.size + 1 + 1) 41 3 1 (fun pre : List Int => pre.length) (fun pre => pre.map (Value.int .i64)) (fun _ _ => True)) _) (ownFrom_kept (fun pre : List Int => c = .exit 6 ∧ pre.length = lm) (by omega) (by omega)))
            ⟨⟨_, bG5, World.ownsRow_nil _ _ _ _, trivial⟩, by simp; omega, Kept.refl _ _ _⟩
            ?a1 ?assign ?body ?done ?stop
          case assign =>
            intro l x W K hK
            gi_wp2
            exact hK
          case body =>
            rintro l pre x W ⟨⟨v, hv, hrow, _⟩, hlen2, hkp⟩ hlt
            have hc := hv.cell
            have hcl := (hkp.boxed (by omega) (by omega) bL5).cell
            have hsW : (W2.heap.size + 3 + 4) ≤ W.heap.size := by have := hkp.2.2.2.1; omega
            by_cases hst : pre.length + 1 < lm
            · have hst' : ¬ (lm : Int) ≤ (pre.length : Int) + 1 := by omega
              gi_wp2_with (gi_at_builtin; refine wpListIn_append_own _ rfl _ _ 41 rfl (W2.heap.size + 3 + 4) 3 i3 (.int .i64 0) 1 8 Yba.underlying41 hi3 hy0 hy1 hy2 rfl (by decide) _ _ _ rfl (hrow.alloc _) ⟨W.heap.size, 0, none⟩ 1 1 [.int .i64 x] rfl rfl (cell_one_new _ _ _) (by simp [Value.oneCell']) (by unfold maxLen; omega) (by omega) (by simp; omega) ?_; intro v' w1 hown' hgrow _; obtain ⟨g', cap', rfl⟩ := ownsRow_succ hown'; obtain ⟨hv1, hv2, hr2, hk2, hb2⟩ := grown_append hv hrow hsW hown' hgrow; have hc1 := hv1.cell; have hf1 := hv1.frozen; have hc2 := hv2.cell; have hcl2 := ((hkp.trans hb2).boxed (by omega) (by omega) bL5).cell)
              exact ⟨hk2.from _, hb2, ⟨_, hv2, by simpa using hr2⟩, by simpa using hst, hkp.trans hb2⟩
            · have hst' : (lm : Int) ≤ (pre.length : Int) + 1 := by omega
              gi_wp2_with (gi_at_builtin; refine wpListIn_append_own _ rfl _ _ 41 rfl (W2.heap.size + 3 + 4) 3 i3 (.int .i64 0) 1 8 Yba.underlying41 hi3 hy0 hy1 hy2 rfl (by decide) _ _ _ rfl (hrow.alloc _) ⟨W.heap.size, 0, none⟩ 1 1 [.int .i64 x] rfl rfl (cell_one_new _ _ _) (by simp [Value.oneCell']) (by unfold maxLen; omega) (by omega) (by simp; omega) ?_; intro v' w1 hown' hgrow _; obtain ⟨g', cap', rfl⟩ := ownsRow_succ hown'; obtain ⟨hv1, hv2, hr2, hk2, hb2⟩ := grown_append hv hrow hsW hown' hgrow; have hc1 := hv1.cell; have hf1 := hv1.frozen; have hc2 := hv2.cell; have hcl2 := ((hkp.trans hb2).boxed (by omega) (by omega) bL5).cell)
              exact ⟨hk2.from _, ⟨_, hv2, by simpa using hr2⟩, ⟨rfl, by simp; omega⟩, hkp.trans hb2⟩
          case done =>
            rintro D ys W hD rfl ⟨⟨v, hv, hrow, _⟩, hlen2, hkp⟩ hK
            have hG : from_ fr xs = wants fr lm xs xs.length := by rw [wants_all, List.take_of_length_le (by omega)]
            rw [hG] at hrow
            obtain ⟨q, hq⟩ : ∃ q, q = (wants fr lm xs xs.length).length := ⟨_, rfl⟩
            have hq1 : q ≤ 1024 := by have := wants_len fr lm xs xs.length; omega
            rw [← hq] at hrow
            have HQ := hide hq
            clear hq hG hlen2
            have hkk0 : (W2.heap.size + 3 + 4) ≤ W.heap.size := by have := hkp.2.2.2.1; omega
            have hcl := (hkp.boxed (by omega) (by omega) bL5).cell
            have hBW : Below wr.heap.size wr W := ⟨hkp.1.trans (hK5.os.trans hB4.os), hkp.2.1.trans (hK5.tape.trans hB4.tape), hkp.2.2.1.trans (hK5.output.trans hB4.output), Nat.le_trans hB4.size (Nat.le_trans hK5.size hkp.2.2.2.1), fun j hj => (hkp.2.2.2.2 j (by omega) (by omega)).trans ((hK5.block j (by omega)).trans (hB4.block j hj))⟩
            have hDW : D < W.heap.size := (Array.getElem?_eq_some_iff.1 hK).1
            have hcvW := (hBW.cell (p := ⟨w.heap.size, k0, none⟩) hBs).trans hcv
            have hirW := (unhide HIR).moved (w' := W) (fun b i hb => hBW.cell (p := ⟨b, i, none⟩) hb)
            have HIW := hide hirW
            clear hirW
            obtain ⟨a', cp', rfl, hi1⟩ := own_irow' hrow
            have HI1 := hide hi1
            clear hi1
            gi_wp2
            gi_loopw [25, 120] (fun u i wq => ∃ j m : Nat, j ≤ xs.length ∧ i = .int .i64 (j : Int) ∧ Hid (m = (wants fr lm xs j).length) ∧ wq.ownsRow W.heap.size 3 1 u m ((wants fr lm xs j).map (Value.int .i64)) ∧ Below W.heap.size W wq)
              (fun _ i _ => ((xs.length : Int) - intOf i).toNat)
            case atStart => exact ⟨0, 0, Nat.zero_le _, rfl, by simp [Hid, wants, from_], by simpa [wants, from_] using World.ownsRow_nil _ _ _ _, Below.refl _ _⟩
            case round =>
              obtain ⟨j, m, hj, rfl, hm, hrj, hbj⟩ := hrel
              have hcl2 := (hbj.cell (World.block_lt_of_cell? W _ hcl)).trans hcl
              have hm1 : m ≤ 1024 := by have := wants_len fr lm xs j; have := unhide hm; omega
              obtain ⟨ao3, cap3, rfl, hir3⟩ := own_irow' hrj
              have HI3 := hide hir3
              clear hir3
              by_cases hlt : j < xs.length
              · have hlt' : (j : Int) < (xs.length : Int) := by omega
                obtain ⟨b, hb2, hcb⟩ := (unhide HIW) (by omega)
                have hcj := (hbj.cell (World.block_lt_of_cell? W _ (hcb j hlt))).trans (hcb j hlt)
                have hxb := (unhide HGD).bound j hlt
                have H1 := hide (wants_no fr lm xs j hlt)
                have H2 := hide (wants_full fr lm xs j hlt)
                have H3 := hide (wants_yes fr lm xs j hlt)
                subst hb2
                generalize xs[j] = x at *
                clear hcb
                by_cases hx1 : fr ≤ x
                · by_cases hx2 : m < lm
                  · have hx2' : (m : Int) < (lm : Int) := by omega
                    have hW := (unhide H3) hx1 (by rw [← unhide hm]; exact hx2)
                    have HW := hide hW
                    clear hW
                    gi_wp2_with (gi_at_builtin; refine wpListIn_append_own _ rfl _ _ 41 rfl W.heap.size 3 i3 (.int .i64 0) 1 8 Yba.underlying41 hi3 hy0 hy1 hy2 rfl (by decide) _ _ _ rfl (hrj.alloc _) ⟨wr.heap.size, 0, none⟩ 1 1 [.int .i64 x] rfl rfl (cell_one_new _ _ _) (by simp [Value.oneCell']) (by unfold maxLen; omega) (by omega) (by have := hbj.size; simp; omega) ?_; intro v' w1 hown' hgrow _)
                    go_roundw
                    case rel => exact ⟨j + 1, m + 1, by omega, by go_num, by unfold Hid; rw [unhide HW, List.length_append, ← unhide hm]; rfl, by rw [unhide HW]; simpa using hown', below_row hbj hrj hgrow⟩
                    case measure => simp [intOf]; omega
                  · have hx2' : ¬ (m : Int) < (lm : Int) := by omega
                    have hW := (unhide H2) (by rw [← unhide hm]; exact hx2)
                    have HW := hide hW
                    clear hW
                    gi_wp2_with fail
                    go_roundw
                    case rel => exact ⟨j + 1, m, by omega, by go_num, by unfold Hid; rw [unhide HW]; exact unhide hm, by rw [unhide HW]; exact hrj, hbj⟩
                    case measure => simp [intOf]; omega
                · have hW := (unhide H1) hx1
                  have HW := hide hW
                  clear hW
                  gi_wp2_with fail
                  go_roundw
                  case rel => exact ⟨j + 1, m, by omega, by go_num, by unfold Hid; rw [unhide HW]; exact unhide hm, by rw [unhide HW]; exact hrj, hbj⟩
                  case measure => simp [intOf]; omega
              · obtain rfl : j = xs.length := by omega
                obtain rfl : q = m := (unhide HQ).trans (unhide hm).symm
                have hi2 := (unhide HI1).below hbj
                have hgw := (hbj.cell (World.block_lt_of_cell? W _ hv.cell)).trans hv.cell
                have hKr := (hbj.block D hDW).trans hK
                have hBr : Below w.heap.size w wr := hBw.trans ((hBW.trans (hbj.mono hBW.size)).mono hBw.size)
                gi_wp2_with (refine ⟨trivial, ?_⟩; gi_at_call 7; refine (callsIn_wide.2 (eq_n a' ao3 cp' cap3 (wants fr lm xs xs.length) q (unhide HQ).symm wr hi2 (unhide HI3) (by omega))).mono ?_; rintro e w' ⟨rfl, nq, rfl⟩)
                refine ⟨by simp, .inl ⟨_, _, rfl, run_takeDeferred hKr, ?_⟩⟩
                exact ⟨_, results_tmp rfl _ _ _, rfl, (Below.trans (b := wr.drewN nq) ⟨hBr.os, hBr.tape, hBr.output, hBr.size, hBr.block⟩ (belowK_b (w := w) (Nat.le_refl _) (wr.drewN nq) D (.deferred (some [])) _ (by have := hBr.size; have := hBW.size; have := hBw.size; omega) (by exact hKr) rfl rfl))⟩

          case stop =>
            rintro D c pre W hD ⟨q0, hq0, rfl⟩ ⟨⟨v, hv, hrow, _⟩, ⟨rfl, hlen2⟩, hkp⟩ hK
            have hG : (from_ fr xs).take q0 = wants fr lm xs xs.length := by rw [wants_all]; rw [List.length_take] at hlen2; congr 1; omega
            rw [hG] at hrow
            obtain ⟨q, hq⟩ : ∃ q, q = (wants fr lm xs xs.length).length := ⟨_, rfl⟩
            have hq1 : q ≤ 1024 := by have := wants_len fr lm xs xs.length; omega
            rw [← hq] at hrow
            have HQ := hide hq
            clear hq hG hlen2
            have hkk0 : (W2.heap.size + 3 + 4) ≤ W.heap.size := by have := hkp.2.2.2.1; omega
            have hcl := (hkp.boxed (by omega) (by omega) bL5).cell
            have hBW : Below wr.heap.size wr W := ⟨hkp.1.trans (hK5.os.trans hB4.os), hkp.2.1.trans (hK5.tape.trans hB4.tape), hkp.2.2.1.trans (hK5.output.trans hB4.output), Nat.le_trans hB4.size (Nat.le_trans hK5.size hkp.2.2.2.1), fun j hj => (hkp.2.2.2.2 j (by omega) (by omega)).trans ((hK5.block j (by omega)).trans (hB4.block j hj))⟩
            have hDW : D < W.heap.size := (Array.getElem?_eq_some_iff.1 hK).1
            have hcvW := (hBW.cell (p := ⟨w.heap.size, k0, none⟩) hBs).trans hcv
            have hirW := (unhide HIR).moved (w' := W) (fun b i hb => hBW.cell (p := ⟨b, i, none⟩) hb)
            have HIW := hide hirW
            clear hirW
            obtain ⟨a', cp', rfl, hi1⟩ := own_irow' hrow
            have HI1 := hide hi1
            clear hi1
            gi_wp2
            gi_loopw [25, 120] (fun u i wq => ∃ j m : Nat, j ≤ xs.length ∧ i = .int .i64 (j : Int) ∧ Hid (m = (wants fr lm xs j).length) ∧ wq.ownsRow W.heap.size 3 1 u m ((wants fr lm xs j).map (Value.int .i64)) ∧ Below W.heap.size W wq)
              (fun _ i _ => ((xs.length : Int) - intOf i).toNat)
            case atStart => exact ⟨0, 0, Nat.zero_le _, rfl, by simp [Hid, wants, from_], by simpa [wants, from_] using World.ownsRow_nil _ _ _ _, Below.refl _ _⟩
            case round =>
              obtain ⟨j, m, hj, rfl, hm, hrj, hbj⟩ := hrel
              have hcl2 := (hbj.cell (World.block_lt_of_cell? W _ hcl)).trans hcl
              have hm1 : m ≤ 1024 := by have := wants_len fr lm xs j; have := unhide hm; omega
              obtain ⟨ao3, cap3, rfl, hir3⟩ := own_irow' hrj
              have HI3 := hide hir3
              clear hir3
              by_cases hlt : j < xs.length
              · have hlt' : (j : Int) < (xs.length : Int) := by omega
                obtain ⟨b, hb2, hcb⟩ := (unhide HIW) (by omega)
                have hcj := (hbj.cell (World.block_lt_of_cell? W _ (hcb j hlt))).trans (hcb j hlt)
                have hxb := (unhide HGD).bound j hlt
                have H1 := hide (wants_no fr lm xs j hlt)
                have H2 := hide (wants_full fr lm xs j hlt)
                have H3 := hide (wants_yes fr lm xs j hlt)
                subst hb2
                generalize xs[j] = x at *
                clear hcb
                by_cases hx1 : fr ≤ x
                · by_cases hx2 : m < lm
                  · have hx2' : (m : Int) < (lm : Int) := by omega
                    have hW := (unhide H3) hx1 (by rw [← unhide hm]; exact hx2)
                    have HW := hide hW
                    clear hW
                    gi_wp2_with (gi_at_builtin; refine wpListIn_append_own _ rfl _ _ 41 rfl W.heap.size 3 i3 (.int .i64 0) 1 8 Yba.underlying41 hi3 hy0 hy1 hy2 rfl (by decide) _ _ _ rfl (hrj.alloc _) ⟨wr.heap.size, 0, none⟩ 1 1 [.int .i64 x] rfl rfl (cell_one_new _ _ _) (by simp [Value.oneCell']) (by unfold maxLen; omega) (by omega) (by have := hbj.size; simp; omega) ?_; intro v' w1 hown' hgrow _)
                    go_roundw
                    case rel => exact ⟨j + 1, m + 1, by omega, by go_num, by unfold Hid; rw [unhide HW, List.length_append, ← unhide hm]; rfl, by rw [unhide HW]; simpa using hown', below_row hbj hrj hgrow⟩
                    case measure => simp [intOf]; omega
                  · have hx2' : ¬ (m : Int) < (lm : Int) := by omega
                    have hW := (unhide H2) (by rw [← unhide hm]; exact hx2)
                    have HW := hide hW
                    clear hW
                    gi_wp2_with fail
                    go_roundw
                    case rel => exact ⟨j + 1, m, by omega, by go_num, by unfold Hid; rw [unhide HW]; exact unhide hm, by rw [unhide HW]; exact hrj, hbj⟩
                    case measure => simp [intOf]; omega
                · have hW := (unhide H1) hx1
                  have HW := hide hW
                  clear hW
                  gi_wp2_with fail
                  go_roundw
                  case rel => exact ⟨j + 1, m, by omega, by go_num, by unfold Hid; rw [unhide HW]; exact unhide hm, by rw [unhide HW]; exact hrj, hbj⟩
                  case measure => simp [intOf]; omega
              · obtain rfl : j = xs.length := by omega
                obtain rfl : q = m := (unhide HQ).trans (unhide hm).symm
                have hi2 := (unhide HI1).below hbj
                have hgw := (hbj.cell (World.block_lt_of_cell? W _ hv.cell)).trans hv.cell
                have hKr := (hbj.block D hDW).trans hK
                have hBr : Below w.heap.size w wr := hBw.trans ((hBW.trans (hbj.mono hBW.size)).mono hBw.size)
                gi_wp2_with (refine ⟨trivial, ?_⟩; gi_at_call 7; refine (callsIn_wide.2 (eq_n a' ao3 cp' cap3 (wants fr lm xs xs.length) q (unhide HQ).symm wr hi2 (unhide HI3) (by omega))).mono ?_; rintro e w' ⟨rfl, nq, rfl⟩)
                refine ⟨by simp, .inl ⟨_, _, rfl, run_takeDeferred hKr, ?_⟩⟩
                exact ⟨_, results_tmp rfl _ _ _, rfl, (Below.trans (b := wr.drewN nq) ⟨hBr.os, hBr.tape, hBr.output, hBr.size, hBr.block⟩ (belowK_b (w := w) (Nat.le_refl _) (wr.drewN nq) D (.deferred (some [])) _ (by have := hBr.size; have := hBW.size; have := hBw.size; omega) (by exact hKr) rfl rfl))⟩


set_option maxRecDepth 100000 in
set_option maxHeartbeats 4000000 in
theorem clus_zero (ao : Option Addr) (len cap : Nat) (A : Nat → Option Addr) (Ln C : Nat → Nat) (z : Nat → Nat → Int) (kk n : Nat) (fr s : Int) (hpos : len = 0) (hkk : kk ≤ 65535) (hn : n ≤ 255) (hf0 : -1024 ≤ fr) (hf1 : fr ≤ 1024) (hs0 : 0 ≤ s) (hs1 : s ≤ 255) (w : World)
    (hD : Deltas w ao len A Ln C z) :
    Calls Yba.prog 4 #[.slice ao len cap, .int .u16 (kk : Int), .int .i64 fr, .int .u8 (n : Int), .int .u8 s] w fun e w' => e = .returned (.bool true) ∧ Below w.heap.size w w' := by
  have hfr0 : ¬ fr < -1024 := by omega
  have hfr1 : ¬ 1024 < fr := by omega
  have hlen' : ¬ (1024 : Int) < (len : Int) := by omega
  obtain ⟨i0, z0, hi0, hz0, hz1, hz2⟩ := info86
  have hmb : i0.bytes * n ≤ 281474976710656 := Nat.le_trans (Nat.mul_le_mul hz2 hn) (by omega)
  obtain ⟨i51, hi51, hy51, hx51, hb51⟩ := info_parts infos51
  obtain ⟨i21, hi21, hy21, hx21, hb21⟩ := info_parts infos21
  obtain ⟨lm, hlim⟩ : ∃ lm : Nat, (lm : Int) = (if s = 0 then 1048576 else s) := ⟨(if s = 0 then 1048576 else s).toNat, by split <;> omega⟩
  have hl1 : 1 ≤ lm := by have := hlim; split at this <;> omega
  have hl2 : lm ≤ 1048576 := by have := hlim; split at this <;> omega
  have HLI := hide hlim
  clear hlim
  have HD := hide hD
  clear hD
  have hLL : 1 ≤ 1 ∧ 1 ≤ 1024 ∧ len ≤ 1 := by omega
  have hz : ((len : Int) == 0) = true := by simp; omega
  have h51 : i51.bytes * 1 ≤ 281474976710656 := by rw [hb51]; omega
  refine (callsIn_wide (n := 6)).1 ?_
  refine callsIn_of_wp_marks Yba.func4 rfl trivial ?_ rfl
  simp only [Yba.ntmps4, List.size_toArray, List.length_cons, List.length_nil, Nat.reduceAdd, Nat.reduceSub, Array.replicate_succ, Array.replicate_zero, List.push_toArray, List.append_toArray, List.nil_append, List.cons_append]
  gi_wp2_with fail
  gi_loopw [41] (fun i wr => w = wr ∧ ∃ r : Nat, r ≤ len ∧ i = .int .i64 (r : Int) ∧ Hid (∀ q, q < r → Ln q ≤ 1024)) (fun i _ => ((len : Int) - intOf i).toNat)
  case atStart => exact ⟨rfl, 0, Nat.zero_le _, rfl, fun q hq => by omega⟩
  case round =>
    obtain ⟨heqw, r, hr, rfl, hle⟩ := hrel
    subst heqw
    by_cases hlt : r < len
    · omega
    · have hrl : len = r := by omega
      subst hrl
      have hge : ¬ (len : Int) < (len : Int) := by omega
      gi_wp2_with (gi_at_make; refine wpListIn_make_row _ rfl _ _ 50 rfl w.heap.size 51 i51 (.slice none 0 0) 1 Yba.underlying50 hi51 hy51 hx51 _ _ _ _ 1 rfl rfl rfl rfl h51 (by unfold maxLen; omega) (Nat.le_refl _) ?_; intro W1 hown1 hg1)
      have B0 := built_zero (Ln := Ln) (z := z) hown1 hg1
      have HG1 := hide hg1
      clear hg1 hown1
      gi_loopw [57] (fun i wr => ∃ (r : Nat) (vs : List Value), r ≤ len ∧ i = .int .i64 (r : Int) ∧ Built w wr 1 r Ln z vs) (fun i _ => ((len : Int) - intOf i).toNat)
      case atStart => exact ⟨0, _, Nat.zero_le _, rfl, B0⟩
      case round =>
        obtain ⟨r, vs, hr2, rfl, hB⟩ := hrel
        by_cases hlt2 : r < len
        · omega
        · have hrl : len = r := by omega
          subst hrl
          have HLE := hide (unhide hle)
          clear hle hr
          skip
          obtain ⟨v, xs, hcv, hgood, hrow⟩ := hB.pick (k := 0) (by omega) (unhide HLE) ((unhide HD).bounds)
          obtain ⟨ao2, cap2, rfl, hir, _, _⟩ := (hrow wr.heap.size wr.heap.size (Nat.le_refl _) (Nat.le_refl _)).irow
          have HIR := hide hir
          clear hir
          have hBw := hB.below
          have hBs := (own_lt hB.lists _ rfl).2
          have HB := hide hB
          have HROW := hide hrow
          have HGD := hide hgood
          clear hB hrow hgood
          gi_wp2_with (first
            | (refine ⟨trivial, ?_⟩; gi_at_call 5; refine (limit_lm Fence.wide _ trivial rfl s lm hs0 hs1 HLI _).mono ?_; rintro e w' ⟨rfl, rfl⟩)
            | (gi_at_make; refine wpListIn_make_full _ rfl _ _ 24 rfl wr.heap.size 86 i0 z0 4 Yba.underlying24 hi0 hz0 hz1 _ _ _ _ n rfl rfl rfl rfl hmb (by unfold maxLen; omega) (by simp) ?_))
          intro W2 hlt2 hg2
          have bL : Boxed W2 wr.heap.size 3 (.int .i64 (lm : Int)) := (Boxed.new wr 3 (.int .i64 (lm : Int))).kept hg2 (by simp)
          have hB2 : Below wr.heap.size wr W2 := ((Below.refl _ wr).alloc (Nat.le_refl _) _).grown hg2 (by simp) (fun k e => by cases e)
          have HG2 := hide hg2
          clear hg2
          gi_wp2_with fail
          obtain ⟨hs4, hC4, hV4, bG4, hK4⟩ := three_new W2 (.cells #[.int .i32 (1 : Int), .slice none 0 0, .slice (some ⟨w.heap.size, 0, none⟩) 1 1, .slice none 0 0, .slice none 0 0] 55) (.cells #[.int .i64 0, .int .i32 0, .slice none 0 0, .slice (some ⟨wr.heap.size + 1, 0, none⟩) n n, .slice none 0 0, .slice none 0 0, .pointer (some ⟨W2.heap.size, 0, none⟩), .slice none 0 0, .string ⟨#[]⟩, .string ⟨#[]⟩, .slice none 0 0, .slice none 0 0, .slice none 0 0, .int .u8 0] 40) 41 (.slice none 0 0)
          have bL4 : Boxed (((W2.alloc (.cells #[.int .i32 (1 : Int), .slice none 0 0, .slice (some ⟨w.heap.size, 0, none⟩) 1 1, .slice none 0 0, .slice none 0 0] 55)).alloc (.cells #[.int .i64 0, .int .i32 0, .slice none 0 0, .slice (some ⟨wr.heap.size + 1, 0, none⟩) n n, .slice none 0 0, .slice none 0 0, .pointer (some ⟨W2.heap.size, 0, none⟩), .slice none 0 0, .string ⟨#[]⟩, .string ⟨#[]⟩, .slice none 0 0, .slice none 0 0, .slice none 0 0, .int .u8 0] 40)).alloc (.cells #[.slice none 0 0] 41)) wr.heap.size 3 (.int .i64 (lm : Int)) := (hK4.block _ (by omega)).trans bL
          have hB4 := hB2.trans (hK4.mono (by omega))
          generalize ((W2.alloc (.cells #[.int .i32 (1 : Int), .slice none 0 0, .slice (some ⟨w.heap.size, 0, none⟩) 1 1, .slice none 0 0, .slice none 0 0] 55)).alloc (.cells #[.int .i64 0, .int .i32 0, .slice none 0 0, .slice (some ⟨wr.heap.size + 1, 0, none⟩) n n, .slice none 0 0, .slice none 0 0, .pointer (some ⟨W2.heap.size, 0, none⟩), .slice none 0 0, .string ⟨#[]⟩, .string ⟨#[]⟩, .slice none 0 0, .slice none 0 0, .slice none 0 0, .int .u8 0] 40)).alloc (.cells #[.slice none 0 0] 41) = W4 at *
          have HC4 := hide hC4
          have HV4 := hide hV4
          clear hC4 hV4
          refine ⟨trivial, ?_⟩
          refine (conds_inC Fence.wide _ trivial trivial rfl (by omega) (W2.heap.size + 1) W2.heap.size 0 fr (some ⟨wr.heap.size + 1, 0, none⟩) n n (some ⟨w.heap.size, 0, none⟩) 1 1 W4 (by rw [cell_of_row W4 _ _ _ 40 (0, 0) (unhide HV4)]; rfl) (by rw [cell_of_row W4 _ _ _ 55 (0, 0) (unhide HC4)]; rfl) (by rw [cell_of_row W4 _ _ _ 40 (0, 0) (unhide HV4)]; rfl)).mono ?_
          rintro e w' ⟨rfl, rfl⟩
          obtain ⟨hs5, b0, b1, b2, b3, hK5⟩ := four_new W4 (W2.heap.size + 3) hs4 50 21 3 3 (.slice (some ⟨w.heap.size, 0, none⟩) 1 1) (.int .i32 (0 : Int)) (.int .i64 fr) (.int .i64 (n : Int))
          have bG5 := (hK5.block _ (by omega)).trans bG4
          have bL5 := (hK5.block _ (by omega)).trans bL4
          gi_wp2_with fail
          try simp only [hs4]
          generalize (((W4.alloc (.cells #[.slice (some ⟨w.heap.size, 0, none⟩) 1 1] 50)).alloc (.cells #[.int .i32 (0 : Int)] 21)).alloc (.cells #[.int .i64 fr] 3)).alloc (.cells #[.int .i64 (n : Int)] 3) = W5 at *
          obtain ⟨i3, hi3, hy0, hy1, hy2⟩ := info_parts infos3
          have hxl : xs.length ≤ 1024 := (unhide HGD).len
          have hfl := from_len fr xs
          have hK5' : Below wr.heap.size wr W5 := hB4.trans (hK5.mono (by omega))
          refine wpIn_rangeFunc_ownG rfl (by omega) (gf := 9) (lb := #[.pointer (some ⟨W2.heap.size + 3, 0, none⟩), .pointer (some ⟨W2.heap.size + 3 + 1 + 1, 0, none⟩), .pointer (some ⟨W2.heap.size + 3 + 1 + 1 + 1, 0, none⟩), .pointer (some ⟨W2.heap.size + 3 + 1, 0, none⟩)]) rfl trivial (enters_of Yba.func9 (by kernel_rfl) rfl)
            (lists_stops (6 - 1) (by omega) (W2.heap.size + 3) (W2.heap.size + 3 + 1 + 1) (W2.heap.size + 3 + 1 + 1 + 1) (W2.heap.size + 3 + 1) (W2.heap.size + 3 + 4) (W2.heap.size + 1 + 1) w.heap.size 1 0 1 fr _ xs hf0 hf1 (by omega) (by omega) (unhide HGD).sort (unhide HGD).bound W5 b0.cell b2.cell b1.cell ((hK5'.cell (p := ⟨w.heap.size, 0, none⟩) hBs).trans hcv)
              (((unhide HROW) (W2.heap.size + 3 + 4) (W2.heap.size + 1 + 1) (by omega) (by omega)).moved (fun b i _ _ hb => hK5'.cell (p := ⟨b, i, none⟩) hb)))
            Kept.trans (keptK_b (by omega)) (Below.refl _ _) (fun _ => rfl)
            (fun pre W => (∃ v, Boxed W (W2.heap.size + 1 + 1) 41 v ∧ W.ownsRow (W2.heap.size + 3 + 4) 3 1 v pre.length (pre.map (Value.int .i64)) ∧ True) ∧ (pre.length < lm ∧ Kept (W2.heap.size + 3 + 4) (W2.heap.size + 1 + 1) W5 W))
            (fun c pre W => (∃ v, Boxed W (W2.heap.size + 1 + 1) 41 v ∧ W.ownsRow (W2.heap.size + 3 + 4) 3 1 v pre.length (pre.map (Value.int .i64)) ∧ True) ∧ ((c = .exit 6 ∧ pre.length = lm) ∧ Kept (W2.heap.size + 3 + 4) (W2.heap.size + 1 + 1) W5 W))
            (OwnFrom.and (Own.from (holdsRow_own (W2.heap.size + 3 + 4) (W2.heap.size + 1 + 1) 41 3 1 (fun pre : List Int => pre.length) (fun pre => pre.map (Value.int .i64)) (fun _ _ => True)) _) (ownFrom_kept (fun pre : List Int => pre.length < lm) (by omega) (by omega)))
            (fun c => OwnFrom.and (Own.from (holdsRow_own (W2.heap.size + 3 + 4) (W2.heap.size + 1 + 1) 41 3 1 (fun pre : List Int => pre.length) (fun pre => pre.map (Value.int .i64)) (fun _ _ => True)) _) (ownFrom_kept (fun pre : List Int => c = .exit 6 ∧ pre.length = lm) (by omega) (by omega)))
            ⟨⟨_, bG5, World.ownsRow_nil _ _ _ _, trivial⟩, by simp; omega, Kept.refl _ _ _⟩
            ?a1 ?assign ?body ?done ?stop
          case assign =>
            intro l x W K hK
            gi_wp2
            exact hK
          case body =>
            rintro l pre x W ⟨⟨v, hv, hrow, _⟩, hlen2, hkp⟩ hlt
            have hc := hv.cell
            have hcl := (hkp.boxed (by omega) (by omega) bL5).cell
            have hsW : (W2.heap.size + 3 + 4) ≤ W.heap.size := by have := hkp.2.2.2.1; omega
            by_cases hst : pre.length + 1 < lm
            · have hst' : ¬ (lm : Int) ≤ (pre.length : Int) + 1 := by omega
              gi_wp2_with (gi_at_builtin; refine wpListIn_append_own _ rfl _ _ 41 rfl (W2.heap.size + 3 + 4) 3 i3 (.int .i64 0) 1 8 Yba.underlying41 hi3 hy0 hy1 hy2 rfl (by decide) _ _ _ rfl (hrow.alloc _) ⟨W.heap.size, 0, none⟩ 1 1 [.int .i64 x] rfl rfl (cell_one_new _ _ _) (by simp [Value.oneCell']) (by unfold maxLen; omega) (by omega) (by simp; omega) ?_; intro v' w1 hown' hgrow _; obtain ⟨g', cap', rfl⟩ := ownsRow_succ hown'; obtain ⟨hv1, hv2, hr2, hk2, hb2⟩ := grown_append hv hrow hsW hown' hgrow; have hc1 := hv1.cell; have hf1 := hv1.frozen; have hc2 := hv2.cell; have hcl2 := ((hkp.trans hb2).boxed (by omega) (by omega) bL5).cell)
              exact ⟨hk2.from _, hb2, ⟨_, hv2, by simpa using hr2⟩, by simpa using hst, hkp.trans hb2⟩
            · have hst' : (lm : Int) ≤ (pre.length : Int) + 1 := by omega
              gi_wp2_with (gi_at_builtin; refine wpListIn_append_own _ rfl _ _ 41 rfl (W2.heap.size + 3 + 4) 3 i3 (.int .i64 0) 1 8 Yba.underlying41 hi3 hy0 hy1 hy2 rfl (by decide) _ _ _ rfl (hrow.alloc _) ⟨W.heap.size, 0, none⟩ 1 1 [.int .i64 x] rfl rfl (cell_one_new _ _ _) (by simp [Value.oneCell']) (by unfold maxLen; omega) (by omega) (by simp; omega) ?_; intro v' w1 hown' hgrow _; obtain ⟨g', cap', rfl⟩ := ownsRow_succ hown'; obtain ⟨hv1, hv2, hr2, hk2, hb2⟩ := grown_append hv hrow hsW hown' hgrow; have hc1 := hv1.cell; have hf1 := hv1.frozen; have hc2 := hv2.cell; have hcl2 := ((hkp.trans hb2).boxed (by omega) (by omega) bL5).cell)
              exact ⟨hk2.from _, ⟨_, hv2, by simpa using hr2⟩, ⟨rfl, by simp; omega⟩, hkp.trans hb2⟩
          case done =>
            rintro D ys W hD rfl ⟨⟨v, hv, hrow, _⟩, hlen2, hkp⟩ hK
            have hG : from_ fr xs = wants fr lm xs xs.length := by rw [wants_all, List.take_of_length_le (by omega)]
            rw [hG] at hrow
            obtain ⟨q, hq⟩ : ∃ q, q = (wants fr lm xs xs.length).length := ⟨_, rfl⟩
            have hq1 : q ≤ 1024 := by have := wants_len fr lm xs xs.length; omega
            rw [← hq] at hrow
            have HQ := hide hq
            clear hq hG hlen2
            have hkk0 : (W2.heap.size + 3 + 4) ≤ W.heap.size := by have := hkp.2.2.2.1; omega
            have hcl := (hkp.boxed (by omega) (by omega) bL5).cell
            have hBW : Below wr.heap.size wr W := ⟨hkp.1.trans (hK5.os.trans hB4.os), hkp.2.1.trans (hK5.tape.trans hB4.tape), hkp.2.2.1.trans (hK5.output.trans hB4.output), Nat.le_trans hB4.size (Nat.le_trans hK5.size hkp.2.2.2.1), fun j hj => (hkp.2.2.2.2 j (by omega) (by omega)).trans ((hK5.block j (by omega)).trans (hB4.block j hj))⟩
            have hDW : D < W.heap.size := (Array.getElem?_eq_some_iff.1 hK).1
            have hcvW := (hBW.cell (p := ⟨w.heap.size, 0, none⟩) hBs).trans hcv
            have hirW := (unhide HIR).moved (w' := W) (fun b i hb => hBW.cell (p := ⟨b, i, none⟩) hb)
            have HIW := hide hirW
            clear hirW
            obtain ⟨a', cp', rfl, hi1⟩ := own_irow' hrow
            have HI1 := hide hi1
            clear hi1
            gi_wp2
            gi_loopw [25, 120] (fun u i wq => ∃ j m : Nat, j ≤ xs.length ∧ i = .int .i64 (j : Int) ∧ Hid (m = (wants fr lm xs j).length) ∧ wq.ownsRow W.heap.size 3 1 u m ((wants fr lm xs j).map (Value.int .i64)) ∧ Below W.heap.size W wq)
              (fun _ i _ => ((xs.length : Int) - intOf i).toNat)
            case atStart => exact ⟨0, 0, Nat.zero_le _, rfl, by simp [Hid, wants, from_], by simpa [wants, from_] using World.ownsRow_nil _ _ _ _, Below.refl _ _⟩
            case round =>
              obtain ⟨j, m, hj, rfl, hm, hrj, hbj⟩ := hrel
              have hcl2 := (hbj.cell (World.block_lt_of_cell? W _ hcl)).trans hcl
              have hm1 : m ≤ 1024 := by have := wants_len fr lm xs j; have := unhide hm; omega
              obtain ⟨ao3, cap3, rfl, hir3⟩ := own_irow' hrj
              have HI3 := hide hir3
              clear hir3
              by_cases hlt : j < xs.length
              · have hlt' : (j : Int) < (xs.length : Int) := by omega
                obtain ⟨b, hb2, hcb⟩ := (unhide HIW) (by omega)
                have hcj := (hbj.cell (World.block_lt_of_cell? W _ (hcb j hlt))).trans (hcb j hlt)
                have hxb := (unhide HGD).bound j hlt
                have H1 := hide (wants_no fr lm xs j hlt)
                have H2 := hide (wants_full fr lm xs j hlt)
                have H3 := hide (wants_yes fr lm xs j hlt)
                subst hb2
                generalize xs[j] = x at *
                clear hcb
                by_cases hx1 : fr ≤ x
                · by_cases hx2 : m < lm
                  · have hx2' : (m : Int) < (lm : Int) := by omega
                    have hW := (unhide H3) hx1 (by rw [← unhide hm]; exact hx2)
                    have HW := hide hW
                    clear hW
                    gi_wp2_with (gi_at_builtin; refine wpListIn_append_own _ rfl _ _ 41 rfl W.heap.size 3 i3 (.int .i64 0) 1 8 Yba.underlying41 hi3 hy0 hy1 hy2 rfl (by decide) _ _ _ rfl (hrj.alloc _) ⟨wr.heap.size, 0, none⟩ 1 1 [.int .i64 x] rfl rfl (cell_one_new _ _ _) (by simp [Value.oneCell']) (by unfold maxLen; omega) (by omega) (by have := hbj.size; simp; omega) ?_; intro v' w1 hown' hgrow _)
                    go_roundw
                    case rel => exact ⟨j + 1, m + 1, by omega, by go_num, by unfold Hid; rw [unhide HW, List.length_append, ← unhide hm]; rfl, by rw [unhide HW]; simpa using hown', below_row hbj hrj hgrow⟩
                    case measure => simp [intOf]; omega
                  · have hx2' : ¬ (m : Int) < (lm : Int) := by omega
                    have hW := (unhide H2) (by rw [← unhide hm]; exact hx2)
                    have HW := hide hW
                    clear hW
                    gi_wp2_with fail
                    go_roundw
                    case rel => exact ⟨j + 1, m, by omega, by go_num, by unfold Hid; rw [unhide HW]; exact unhide hm, by rw [unhide HW]; exact hrj, hbj⟩
                    case measure => simp [intOf]; omega
                · have hW := (unhide H1) hx1
                  have HW := hide hW
                  clear hW
                  gi_wp2_with fail
                  go_roundw
                  case rel => exact ⟨j + 1, m, by omega, by go_num, by unfold Hid; rw [unhide HW]; exact unhide hm, by rw [unhide HW]; exact hrj, hbj⟩
                  case measure => simp [intOf]; omega
              · obtain rfl : j = xs.length := by omega
                obtain rfl : q = m := (unhide HQ).trans (unhide hm).symm
                have hi2 := (unhide HI1).below hbj
                have hgw := (hbj.cell (World.block_lt_of_cell? W _ hv.cell)).trans hv.cell
                have hKr := (hbj.block D hDW).trans hK
                have hBr : Below w.heap.size w wr := hBw.trans ((hBW.trans (hbj.mono hBW.size)).mono hBw.size)
                gi_wp2_with (refine ⟨trivial, ?_⟩; gi_at_call 7; refine (callsIn_wide.2 (eq_n a' ao3 cp' cap3 (wants fr lm xs xs.length) q (unhide HQ).symm wr hi2 (unhide HI3) (by omega))).mono ?_; rintro e w' ⟨rfl, nq, rfl⟩)
                refine ⟨by simp, .inl ⟨_, _, rfl, run_takeDeferred hKr, ?_⟩⟩
                exact ⟨_, results_tmp rfl _ _ _, rfl, (Below.trans (b := wr.drewN nq) ⟨hBr.os, hBr.tape, hBr.output, hBr.size, hBr.block⟩ (belowK_b (w := w) (Nat.le_refl _) (wr.drewN nq) D (.deferred (some [])) _ (by have := hBr.size; have := hBW.size; have := hBw.size; omega) (by exact hKr) rfl rfl))⟩

          case stop =>
            rintro D c pre W hD ⟨q0, hq0, rfl⟩ ⟨⟨v, hv, hrow, _⟩, ⟨rfl, hlen2⟩, hkp⟩ hK
            have hG : (from_ fr xs).take q0 = wants fr lm xs xs.length := by rw [wants_all]; rw [List.length_take] at hlen2; congr 1; omega
            rw [hG] at hrow
            obtain ⟨q, hq⟩ : ∃ q, q = (wants fr lm xs xs.length).length := ⟨_, rfl⟩
            have hq1 : q ≤ 1024 := by have := wants_len fr lm xs xs.length; omega
            rw [← hq] at hrow
            have HQ := hide hq
            clear hq hG hlen2
            have hkk0 : (W2.heap.size + 3 + 4) ≤ W.heap.size := by have := hkp.2.2.2.1; omega
            have hcl := (hkp.boxed (by omega) (by omega) bL5).cell
            have hBW : Below wr.heap.size wr W := ⟨hkp.1.trans (hK5.os.trans hB4.os), hkp.2.1.trans (hK5.tape.trans hB4.tape), hkp.2.2.1.trans (hK5.output.trans hB4.output), Nat.le_trans hB4.size (Nat.le_trans hK5.size hkp.2.2.2.1), fun j hj => (hkp.2.2.2.2 j (by omega) (by omega)).trans ((hK5.block j (by omega)).trans (hB4.block j hj))⟩
            have hDW : D < W.heap.size := (Array.getElem?_eq_some_iff.1 hK).1
            have hcvW := (hBW.cell (p := ⟨w.heap.size, 0, none⟩) hBs).trans hcv
            have hirW := (unhide HIR).moved (w' := W) (fun b i hb => hBW.cell (p := ⟨b, i, none⟩) hb)
            have HIW := hide hirW
            clear hirW
            obtain ⟨a', cp', rfl, hi1⟩ := own_irow' hrow
            have HI1 := hide hi1
            clear hi1
            gi_wp2
            gi_loopw [25, 120] (fun u i wq => ∃ j m : Nat, j ≤ xs.length ∧ i = .int .i64 (j : Int) ∧ Hid (m = (wants fr lm xs j).length) ∧ wq.ownsRow W.heap.size 3 1 u m ((wants fr lm xs j).map (Value.int .i64)) ∧ Below W.heap.size W wq)
              (fun _ i _ => ((xs.length : Int) - intOf i).toNat)
            case atStart => exact ⟨0, 0, Nat.zero_le _, rfl, by simp [Hid, wants, from_], by simpa [wants, from_] using World.ownsRow_nil _ _ _ _, Below.refl _ _⟩
            case round =>
              obtain ⟨j, m, hj, rfl, hm, hrj, hbj⟩ := hrel
              have hcl2 := (hbj.cell (World.block_lt_of_cell? W _ hcl)).trans hcl
              have hm1 : m ≤ 1024 := by have := wants_len fr lm xs j; have := unhide hm; omega
              obtain ⟨ao3, cap3, rfl, hir3⟩ := own_irow' hrj
              have HI3 := hide hir3
              clear hir3
              by_cases hlt : j < xs.length
              · have hlt' : (j : Int) < (xs.length : Int) := by omega
                obtain ⟨b, hb2, hcb⟩ := (unhide HIW) (by omega)
                have hcj := (hbj.cell (World.block_lt_of_cell? W _ (hcb j hlt))).trans (hcb j hlt)
                have hxb := (unhide HGD).bound j hlt
                have H1 := hide (wants_no fr lm xs j hlt)
                have H2 := hide (wants_full fr lm xs j hlt)
                have H3 := hide (wants_yes fr lm xs j hlt)
                subst hb2
                generalize xs[j] = x at *
                clear hcb
                by_cases hx1 : fr ≤ x
                · by_cases hx2 : m < lm
                  · have hx2' : (m : Int) < (lm : Int) := by omega
                    have hW := (unhide H3) hx1 (by rw [← unhide hm]; exact hx2)
                    have HW := hide hW
                    clear hW
                    gi_wp2_with (gi_at_builtin; refine wpListIn_append_own _ rfl _ _ 41 rfl W.heap.size 3 i3 (.int .i64 0) 1 8 Yba.underlying41 hi3 hy0 hy1 hy2 rfl (by decide) _ _ _ rfl (hrj.alloc _) ⟨wr.heap.size, 0, none⟩ 1 1 [.int .i64 x] rfl rfl (cell_one_new _ _ _) (by simp [Value.oneCell']) (by unfold maxLen; omega) (by omega) (by have := hbj.size; simp; omega) ?_; intro v' w1 hown' hgrow _)
                    go_roundw
                    case rel => exact ⟨j + 1, m + 1, by omega, by go_num, by unfold Hid; rw [unhide HW, List.length_append, ← unhide hm]; rfl, by rw [unhide HW]; simpa using hown', below_row hbj hrj hgrow⟩
                    case measure => simp [intOf]; omega
                  · have hx2' : ¬ (m : Int) < (lm : Int) := by omega
                    have hW := (unhide H2) (by rw [← unhide hm]; exact hx2)
                    have HW := hide hW
                    clear hW
                    gi_wp2_with fail
                    go_roundw
                    case rel => exact ⟨j + 1, m, by omega, by go_num, by unfold Hid; rw [unhide HW]; exact unhide hm, by rw [unhide HW]; exact hrj, hbj⟩
                    case measure => simp [intOf]; omega
                · have hW := (unhide H1) hx1
                  have HW := hide hW
                  clear hW
                  gi_wp2_with fail
                  go_roundw
                  case rel => exact ⟨j + 1, m, by omega, by go_num, by unfold Hid; rw [unhide HW]; exact unhide hm, by rw [unhide HW]; exact hrj, hbj⟩
                  case measure => simp [intOf]; omega
              · obtain rfl : j = xs.length := by omega
                obtain rfl : q = m := (unhide HQ).trans (unhide hm).symm
                have hi2 := (unhide HI1).below hbj
                have hgw := (hbj.cell (World.block_lt_of_cell? W _ hv.cell)).trans hv.cell
                have hKr := (hbj.block D hDW).trans hK
                have hBr : Below w.heap.size w wr := hBw.trans ((hBW.trans (hbj.mono hBW.size)).mono hBw.size)
                gi_wp2_with (refine ⟨trivial, ?_⟩; gi_at_call 7; refine (callsIn_wide.2 (eq_n a' ao3 cp' cap3 (wants fr lm xs xs.length) q (unhide HQ).symm wr hi2 (unhide HI3) (by omega))).mono ?_; rintro e w' ⟨rfl, nq, rfl⟩)
                refine ⟨by simp, .inl ⟨_, _, rfl, run_takeDeferred hKr, ?_⟩⟩
                exact ⟨_, results_tmp rfl _ _ _, rfl, (Below.trans (b := wr.drewN nq) ⟨hBr.os, hBr.tape, hBr.output, hBr.size, hBr.block⟩ (belowK_b (w := w) (Nat.le_refl _) (wr.drewN nq) D (.deferred (some [])) _ (by have := hBr.size; have := hBW.size; have := hBw.size; omega) (by exact hKr) rfl rfl))⟩


end Go.Proofs.Ybulkbsds
