/-
  The iterator of condsIn where clusters stand: its contract; what makes it.
-/
import Derived.Test.YbulkbsdsSearch
namespace Go.Proofs.Ybulkbsds
open Go.RowKit Go.Shelf

attribute [local go_sem] Oper.semAt_some

/-- A row of int32 numbers that lies below N, not in block g. -/
def Row32 (w : World) (N g : Nat) (v : Value) (xs : List Int) : Prop :=
  (xs = [] ∧ v = .slice none 0 0) ∨ (∃ b cap, v = .slice (some ⟨b, 0, none⟩) xs.length cap ∧ xs.length ≤ cap ∧ cap ≤ maxLen ∧ b < N ∧ b ≠ g ∧ ∀ i (h : i < xs.length), w.cell? ⟨b, i, none⟩ = some (.int .i32 xs[i]))

/-- Those that are at least fr. -/
def from_ (fr : Int) (xs : List Int) : List Int := xs.filter (fun x => decide (fr ≤ x))

theorem filter_all (fr : Int) : ∀ (xs : List Int), (∀ i (h : i < xs.length), fr ≤ xs[i]) → from_ fr xs = xs := by
  intro xs h
  unfold from_
  rw [List.filter_eq_self]
  intro x hx
  obtain ⟨i, hi, rfl⟩ := List.getElem_of_mem hx
  simpa using h i hi

theorem drop_from (fr : Int) : ∀ (xs : List Int) (j : Nat), j ≤ xs.length → (∀ i (h : i < xs.length), i < j → xs[i] < fr) → (∀ i (h : i < xs.length), j ≤ i → fr ≤ xs[i]) → xs.drop j = from_ fr xs := by
  intro xs
  induction xs with
  | nil => intro j _ _ _; simp [from_]
  | cons x xs ih =>
    intro j hj h1 h2
    cases j with
    | zero => rw [List.drop_zero, filter_all _ _ (fun i h => h2 i h (Nat.zero_le _))]
    | succ j =>
      have hx : x < fr := h1 0 (by simp) (by omega)
      rw [List.drop_succ_cons, ih j (by simpa using hj) (fun i h hi => h1 (i + 1) (by simp; omega) (by omega)) (fun i h hi => h2 (i + 1) (by simp; omega) (by omega))]
      unfold from_
      rw [List.filter_cons_of_neg (by simp; omega)]

theorem Row32.irow {w : World} {N g : Nat} {v : Value} {xs : List Int} (h : Row32 w N g v xs) : ∃ ao cap, v = .slice ao xs.length cap ∧ IRow32 w ao xs ∧ xs.length ≤ cap ∧ cap ≤ maxLen := by
  rcases h with ⟨rfl, rfl⟩ | ⟨b, cap, rfl, h1, h2, _, _, hc⟩
  · exact ⟨Option.none, 0, rfl, fun h => by simp at h, Nat.zero_le _, Nat.zero_le _⟩
  · exact ⟨_, cap, rfl, fun _ => ⟨b, rfl, hc⟩, h1, h2⟩

set_option maxRecDepth 100000 in
set_option maxHeartbeats 2000000 in
/-- listed's function, where lists is not nil. -/
theorem iter_lists (n : Nat) (hn : 1 ≤ n) (l Bl Bf Bn Bk N g Lb L k cp : Nat) (fr : Int) (v : Value) (xs : List Int) (hf1 : -1024 ≤ fr) (hf2 : fr ≤ 1024) (hkL : k < L) (hx : xs.length ≤ 100000)
    (hsort : ∀ i j (hi : i < j) (hj : j < xs.length), xs[i] < xs[j]) (hxb : ∀ i (h : i < xs.length), -64 ≤ xs[i] ∧ xs[i] ≤ 1000000)
    (J Jx : List Int → World → Prop)
    (hY : ∀ pre x W, J pre W → pre.length < (from_ fr xs).length → YieldAt Fence.wide (n - 1) Yba.prog l #[.int .i64 x] W fun e W' =>
      (e = .returned (.bool true) ∧ J (pre ++ [x]) W' ∧ Kept N g W W') ∨ (e = .returned (.bool false) ∧ Jx (pre ++ [x]) W'))
    (W : World) (hBl : W.cell? ⟨Bl, 0, none⟩ = some (.slice (some ⟨Lb, 0, none⟩) L cp)) (hBf : W.cell? ⟨Bf, 0, none⟩ = some (.int .i64 fr)) (hBk : W.cell? ⟨Bk, 0, none⟩ = some (.int .i32 k))
    (hLk : W.cell? ⟨Lb, k, none⟩ = some v) (hR : Row32 W N g v xs) (h0 : J [] W) :
    CallsIn Fence.wide n Yba.prog 9 #[.func (.yield l) #[] #[], .pointer (some ⟨Bl, 0, none⟩), .pointer (some ⟨Bf, 0, none⟩), .pointer (some ⟨Bn, 0, none⟩), .pointer (some ⟨Bk, 0, none⟩)] W fun e W' => (∃ v, e = .returned v) ∧
      ((∃ ys, ys = from_ fr xs ∧ J ys W') ∨ (∃ pre, (∃ k, k ≤ (from_ fr xs).length ∧ pre = (from_ fr xs).take k) ∧ Jx pre W')) := by
  have hq := Go.Lib.run_eql_slice_nil (P := Yba.prog) W 50 51 (some ⟨Lb, 0, none⟩ : Option Addr) L cp 0 0 Yba.underlying50
  have HS := hide hsort
  clear hsort
  have HB := hide hxb
  clear hxb
  have HR := hide hR
  obtain ⟨ao, cap, rfl, hir, hc1, hc2⟩ := hR.irow
  clear hR
  refine callsIn_of_wp Yba.func9 rfl trivial ?_ rfl
  simp only [Yba.ntmps9, List.size_toArray, List.length_cons, List.length_nil, Nat.reduceAdd, Nat.reduceSub, Array.replicate_succ, Array.replicate_zero, List.push_toArray, List.append_toArray, List.nil_append, List.cons_append]
  gi_wp2_with (fail)
  refine ⟨trivial, ?_⟩
  refine (callsIn_wide.2 (search_any ao cap xs fr W hir hx (unhide HS))).mono ?_
  rintro e w' ⟨j, fb, rfl, heqw, hj, hlo, hhi⟩
  replace heqw := heqw.symm
  subst heqw
  have hdr := drop_from fr xs j hj hlo hhi
  rcases unhide HR with ⟨rfl, hv⟩ | ⟨b, cap', hv, _, _, hbN, hbg, hcc⟩
  · obtain ⟨rfl, rfl⟩ : ao = none ∧ cap = 0 := by simpa using hv
    obtain rfl : j = 0 := by simpa using hj
    have HD := hide hdr
    clear hdr
    gi_wp2
    gi_loopw [39] (fun i wr => i = .int .i64 0 ∧ wr = W) (fun _ _ => 0)
    case atStart => exact ⟨rfl, rfl⟩
    case round =>
      obtain ⟨rfl, rfl⟩ := hrel
      gi_wp2
      exact bodyPost_end (results_none rfl _ _ _) rfl ⟨⟨_, rfl⟩, .inl ⟨_, rfl, h0⟩⟩
  · obtain ⟨rfl, rfl⟩ : ao = some ⟨b, 0, none⟩ ∧ cap = cap' := by simpa using hv
    clear hv
    by_cases hjl : j < xs.length
    · have HD := hide hdr
      clear hdr
      have HLO := hide hlo
      have HHI := hide hhi
      clear hlo hhi
      have hfl : (from_ fr xs).length = xs.length - j := by rw [← unhide HD]; simp
      gi_wp2_with (fail)
      gi_loopw [39] (fun i wr => ∃ r : Nat, r ≤ xs.length - j ∧ i = .int .i64 (r : Int) ∧ J ((from_ fr xs).take r) wr ∧ Kept N g W wr)
        (fun i _ => ((xs.length - j : Nat) - intOf i).toNat)
      case atStart => exact ⟨0, Nat.zero_le _, by simp, h0, Kept.refl _ _ _⟩
      case round =>
        obtain ⟨r, hr, rfl, hJr, hkr⟩ := hrel
        by_cases hlt : r < xs.length - j
        · have hlt' : (r : Int) < ((xs.length - j : Nat) : Int) := by omega
          have hge : (from_ fr xs).take (r + 1) = (from_ fr xs).take r ++ [xs[j + r]] := by
            rw [← unhide HD, List.take_add_one, List.getElem?_drop, List.getElem?_eq_getElem (by omega)]; rfl
          have hcr : wr.cell? ⟨b, j + r, none⟩ = some (.int .i32 xs[j + r]) := (hkr.cell hbN hbg).trans (hcc (j + r) (by omega))
          obtain ⟨fn, tmps, assign, body, hy, hR⟩ := hY _ xs[j + r] wr hJr (by rw [List.length_take]; omega)
          obtain ⟨hz1, hz2⟩ := unhide HB (j + r) (by omega)
          generalize xs[j + r] = z at *
          have HG := hide hge
          clear hge
          gi_wp2
          refine hR.mono ?_
          rintro e W3 (⟨rfl, hJ3, hk3⟩ | ⟨rfl, hJx3⟩)
          · gi_wp2
            go_roundw
            case rel => exact ⟨r + 1, by omega, by go_num, by rw [unhide HG]; exact hJ3, hkr.trans hk3⟩
            case measure => simp [intOf]; omega
          · gi_wp2
            refine bodyPost_ret (results_none rfl _ _ _) rfl ?_
            exact ⟨⟨_, rfl⟩, .inr ⟨_, ⟨r + 1, by omega, (unhide HG).symm⟩, hJx3⟩⟩
        · obtain rfl : r = xs.length - j := by omega
          have hta : (from_ fr xs).take (xs.length - j) = from_ fr xs := List.take_of_length_le (by omega)
          have HTA := hide hta
          clear hta
          gi_wp2
          exact bodyPost_end (results_none rfl _ _ _) rfl ⟨⟨_, rfl⟩, .inl ⟨_, (unhide HTA).symm ▸ rfl, hJr⟩⟩
    · obtain rfl : j = xs.length := by omega
      have HD : from_ fr xs = [] := by rw [← hdr]; simp
      have HD' := hide HD
      clear hdr HD
      by_cases hcap : cap = xs.length
      · subst hcap
        gi_wp2_with (fail)
        gi_loopw [39] (fun i wr => i = .int .i64 0 ∧ wr = W) (fun _ _ => 0)
        case atStart => exact ⟨rfl, rfl⟩
        case round =>
          obtain ⟨rfl, rfl⟩ := hrel
          gi_wp2
          exact bodyPost_end (results_none rfl _ _ _) rfl ⟨⟨_, rfl⟩, .inl ⟨_, (unhide HD').symm, h0⟩⟩
      · gi_wp2_with (fail)
        gi_loopw [39] (fun i wr => i = .int .i64 0 ∧ wr = W) (fun _ _ => 0)
        case atStart => exact ⟨rfl, rfl⟩
        case round =>
          obtain ⟨rfl, rfl⟩ := hrel
          gi_wp2
          exact bodyPost_end (results_none rfl _ _ _) rfl ⟨⟨_, rfl⟩, .inl ⟨_, (unhide HD').symm, h0⟩⟩

theorem Row32.moved {w W : World} {N g : Nat} {v : Value} {xs : List Int} (h : Row32 w N g v xs) (hc : ∀ b i, b < N → b ≠ g → b < w.heap.size → W.cell? ⟨b, i, none⟩ = w.cell? ⟨b, i, none⟩) : Row32 W N g v xs := by
  rcases h with h | ⟨b, cap, hv, h1, h2, h3, h4, h5⟩
  · exact .inl h
  · exact .inr ⟨b, cap, hv, h1, h2, h3, h4, fun i hi => (hc b i h3 h4 (World.block_lt_of_cell? w ⟨b, i, none⟩ (h5 i hi))).trans (h5 i hi)⟩

/-- It 'SeqStopsK', at 'Kept N g'. -/
theorem lists_stops (n : Nat) (hn : 1 ≤ n) (Bl Bf Bn Bk N g Lb L k cp : Nat) (fr : Int) (v : Value) (xs : List Int) (hf1 : -1024 ≤ fr) (hf2 : fr ≤ 1024) (hkL : k < L) (hx : xs.length ≤ 100000)
    (hsort : ∀ i j (hi : i < j) (hj : j < xs.length), xs[i] < xs[j]) (hxb : ∀ i (h : i < xs.length), -64 ≤ xs[i] ∧ xs[i] ≤ 1000000) (w : World)
    (hBl : w.cell? ⟨Bl, 0, none⟩ = some (.slice (some ⟨Lb, 0, none⟩) L cp)) (hBf : w.cell? ⟨Bf, 0, none⟩ = some (.int .i64 fr)) (hBk : w.cell? ⟨Bk, 0, none⟩ = some (.int .i32 k))
    (hLk : w.cell? ⟨Lb, k, none⟩ = some v) (hR : Row32 w N g v xs) :
    SeqStopsK Fence.wide n Yba.prog 9 #[.pointer (some ⟨Bl, 0, none⟩), .pointer (some ⟨Bf, 0, none⟩), .pointer (some ⟨Bn, 0, none⟩), .pointer (some ⟨Bk, 0, none⟩)] (fun x : Int => #[Value.int .i64 x]) (Kept N g)
      (fun ys => ys = from_ fr xs) (fun pre => ∃ k, k ≤ (from_ fr xs).length ∧ pre = (from_ fr xs).take k) (from_ fr xs).length w := fun l J Jx W hW _ _ hY h0 =>
  iter_lists n hn l Bl Bf Bn Bk N g Lb L k cp fr v xs hf1 hf2 hkL hx hsort hxb J Jx hY W ((hW.cell (p := ⟨Bl, 0, none⟩) (World.block_lt_of_cell? w _ hBl)).trans hBl) ((hW.cell (p := ⟨Bf, 0, none⟩) (World.block_lt_of_cell? w _ hBf)).trans hBf) ((hW.cell (p := ⟨Bk, 0, none⟩) (World.block_lt_of_cell? w _ hBk)).trans hBk)
    ((hW.cell (p := ⟨Lb, k, none⟩) (World.block_lt_of_cell? w _ hLk)).trans hLk) (hR.moved (fun b i _ _ hb => hW.cell (p := ⟨b, i, none⟩) hb)) h0

set_option maxHeartbeats 1000000 in
/-- condsIn, where clusters stand. -/
theorem conds_inC (F : Fence) (n : Nat) (h6 : F.fn 6) (h8 : F.fn 8) (hro : F.round = none) (hn : 1 ≤ n) (G Cb : Nat) (k fr : Int) (a : Option Addr) (m c : Nat) (al : Option Addr) (ll cl : Nat) (w : World)
    (hcl : w.cell? ⟨G, 6, none⟩ = some (.pointer (some ⟨Cb, 0, none⟩))) (hcc : w.cell? ⟨Cb, 2, none⟩ = some (.slice al ll cl)) (hco : w.cell? ⟨G, 3, none⟩ = some (.slice a m c)) :
    CallsIn F n Yba.prog 6 #[.pointer (some ⟨G, 0, none⟩), .int .i32 k, .int .i64 fr] w fun e w' =>
      e = .returned (.func (.func 9) #[] #[.pointer (some ⟨w.heap.size, 0, none⟩), .pointer (some ⟨w.heap.size + 1 + 1, 0, none⟩), .pointer (some ⟨w.heap.size + 1 + 1 + 1, 0, none⟩), .pointer (some ⟨w.heap.size + 1, 0, none⟩)]) ∧
      w' = (((w.alloc (.cells #[.slice al ll cl] 50)).alloc (.cells #[.int .i32 k] 21)).alloc (.cells #[.int .i64 fr] 3)).alloc (.cells #[.int .i64 m] 3) := by
  refine callsIn_of_wp Yba.func6 rfl h6 ?_ hro
  simp only [Yba.ntmps6, List.size_toArray, List.length_cons, List.length_nil, Nat.reduceAdd, Nat.reduceSub, Array.replicate_succ, Array.replicate_zero, List.push_toArray, List.append_toArray, List.nil_append, List.cons_append]
  gi_wp2_with (gi_at_call 8; refine (listed_in F (n - 1) h8 hro _ _ _ _ _ _ _).mono ?_; rintro e w' ⟨rfl, rfl⟩)
  go_ret
  exact ⟨rfl, rfl⟩

#print axioms lists_stops
#print axioms conds_inC
end Go.Proofs.Ybulkbsds
