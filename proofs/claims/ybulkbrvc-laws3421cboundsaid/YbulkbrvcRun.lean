/-
  The walk of zzs3421crun.
-/
import Derived.Test.YbulkbrvcHeld
import Derived.Deep.LoopGhost
import Derived.Deep.QuietTactic
import Derived.BigQuiet
namespace Go.Proofs.Ybulkbrvc
open Go.ChangeShapes Go.WideShapes Go.ChangeAt Go.RowKit

/-- The cells of a row of pairs. -/
def flat (L : List Pr) : List Value := L.flatMap fun p => [.string p.1, .string p.2]
theorem flat_len (L : List Pr) : (flat L).length = L.length * 2 := by
  induction L with
  | nil => rfl
  | cons p r ih => simp [flat] at ih ⊢; omega
theorem flat_snoc (L : List Pr) (p : Pr) : flat (L ++ [p]) = flat L ++ [.string p.1, .string p.2] := by simp [flat]
theorem flat_at (L : List Pr) (j : Nat) (h : j < L.length) : (flat L)[j * 2]? = some (.string L[j].1) ∧ (flat L)[j * 2 + 1]? = some (.string L[j].2) := by
  induction L generalizing j with
  | nil => simp at h
  | cons p r ih =>
    cases j with
    | zero => simp [flat]
    | succ j =>
      have := ih j (by simpa using h)
      have e : (j + 1) * 2 = j * 2 + 1 + 1 := by omega
      rw [e]
      simpa [flat] using this

theorem Yba.info27 : (Yba.prog.info? 27).map (fun i => (i.zero, i.size, i.bytes)) = some (some (.agg #[.string ⟨#[]⟩, .string ⟨#[]⟩]), 2, 32) := by kernel_rfl

/-- Behind heldBack the model's row is what it was. -/
theorem row_since {B : Nat} {W w1 : World} (hS : Since B B W w1) {v : Value} {n : Nat} {xs : List Value} (h : W.ownsRow (B + 1) 27 2 v n xs) : w1.ownsRow (B + 1) 27 2 v n xs := by
  refine ⟨h.1, ?_⟩
  rcases h.2 with hn | ⟨g, cap, cur, rfl, hb, hgg, rest⟩
  · exact .inl hn
  · refine .inr ⟨g, cap, cur, rfl, hb, ?_, rest⟩
    rw [hS.high g (heap_lt hgg) (by omega) (fun es c => by rw [hgg]; simp)]
    exact hgg

/-- The model's row, read at j. -/
theorem row_at {W : World} {B : Nat} {a : Option Addr} {c : Nat} {L : List Pr} (h : W.ownsRow (B + 1) 27 2 (.slice a L.length c) L.length (flat L)) (hne : L ≠ []) :
    ∃ m, a = some ⟨m, 0, none⟩ ∧ B + 1 ≤ m ∧ m < W.heap.size ∧ ∀ j (hj : j < L.length), W.cell? ⟨m, j * 2, none⟩ = some (.string L[j].1) ∧ W.cell? ⟨m, j * 2 + 1, none⟩ = some (.string L[j].2) := by
  have h0 : 0 < L.length := List.length_pos_iff.2 hne
  rcases h.2 with ⟨_, hn⟩ | ⟨m, cap, cur, hv, hb, hgg, hnc, hcm, hcs, ht⟩
  · omega
  · simp only [Value.slice.injEq, true_and] at hv
    obtain ⟨rfl, rfl⟩ := hv
    refine ⟨m, rfl, hb, heap_lt hgg, fun j hj => ?_⟩
    rw [h.cellAt (j * 2) (by omega), h.cellAt (j * 2 + 1) (by omega)]
    exact flat_at L j hj

theorem bytes_inj {x y : ByteArray} (h : (x.toList == y.toList) = true) : x = y := by
  rw [ByteArray.toList_eq, ByteArray.toList_eq] at h
  obtain ⟨⟨x⟩⟩ := x
  obtain ⟨⟨y⟩⟩ := y
  simp at h
  rw [h]

theorem pr_ne {q p : Pr} (h : q ≠ p) : ((q.1.toList == p.1.toList) = false) ∨ ((q.1.toList == p.1.toList) = true ∧ (q.2.toList == p.2.toList) = false) := by
  cases e1 : q.1.toList == p.1.toList
  · exact .inl rfl
  · refine .inr ⟨rfl, ?_⟩
    cases e2 : q.2.toList == p.2.toList
    · rfl
    · exact absurd (Prod.ext (bytes_inj e1) (bytes_inj e2)) h

/-- The round's limbs, carried over new blocks. -/
theorem rel_carry {B : Nat} {w w1 wx : World} {mv v : Value} {L : List Pr} {n : Nat} {xs : List Value} (hb : Below w1.heap.size w1 wx) (hG : w1.heap[B]? = some (ledger mv)) (hH : Held B w1 mv L) (hown : w1.ownsRow (B + 1) 27 2 v n xs)
    (hnx : Below B w w1) (hz : B + 1 ≤ w1.heap.size) :
    wx.heap[B]? = some (ledger mv) ∧ Held B wx mv L ∧ wx.ownsRow (B + 1) 27 2 v n xs ∧ Below B w wx ∧ B + 1 ≤ wx.heap.size := by
  refine ⟨(hb.block B (by omega)).trans hG, hH.kept (fun k es c h => (hb.block k (heap_lt h)).trans h), ⟨hown.1, ?_⟩, hnx.trans (hb.mono (by omega)), Nat.le_trans hz hb.size⟩
  rcases hown.2 with hn | ⟨g, cap, cur, rfl, hbg, hgg, rest⟩
  · exact .inl hn
  · exact .inr ⟨g, cap, cur, rfl, hbg, (hb.block g (heap_lt hgg)).trans hgg, rest⟩

/-- .. and over the append. -/
theorem rel_append {B : Nat} {w wx w2 : World} {mv v v' : Value} {L M : List Pr} {p : Pr} (hown : wx.ownsRow (B + 1) 27 2 v L.length (flat L)) (hG : wx.heap[B]? = some (ledger mv)) (hH : Held B wx mv M) (hnx : Below B w wx) (hz : B + 1 ≤ wx.heap.size)
    (hown' : w2.ownsRow (B + 1) 27 2 v' (L.length + 1) (flat L ++ [.string p.1, .string p.2])) (hg : (wx.alloc (.cells #[.string p.1, .string p.2] 27)).grownBy w2 v.ownBlock) :
    ∃ a c, v' = .slice a (L ++ [p]).length c ∧ w2.heap[B]? = some (ledger mv) ∧ Held B w2 mv M ∧ w2.ownsRow (B + 1) 27 2 (.slice a (L ++ [p]).length c) (L ++ [p]).length (flat (L ++ [p])) ∧ Below B w w2 ∧ B + 1 ≤ w2.heap.size := by
  have hblk : ∀ k, v.ownBlock = some k → B + 1 ≤ k ∧ ∃ cur, wx.heap[k]? = some (.cells cur 27 (0, 0)) := by
    intro k hk
    rcases hown.2 with ⟨rfl, _⟩ | ⟨g, cap, cur, rfl, hb, hgg, _⟩
    · simp [Value.ownBlock] at hk
    · simp [Value.ownBlock] at hk
      subst hk
      exact ⟨hb, cur, hgg⟩
  have hsz := hg.size
  simp at hsz
  have hshape : ∃ a c, v' = .slice a (L ++ [p]).length c := by
    rcases hown'.2 with ⟨_, hn⟩ | ⟨g, cap, cur, hv, _⟩
    · omega
    · exact ⟨some ⟨g, 0, none⟩, cap, by rw [hv]; simp⟩
  obtain ⟨a, c, rfl⟩ := hshape
  refine ⟨a, c, rfl, ?_, hH.kept (fun k es cc h => ?_), ?_, (hnx.alloc (by omega) _).grown hg (by simp; omega) (fun k hk => by have := (hblk k hk).1; omega), by omega⟩
  · rw [hg.block B (by simp; omega) (fun e => by have := (hblk B e.symm).1; omega), Below.heap_alloc _ _ _ (by omega)]
    exact hG
  · rw [hg.block k (by have := heap_lt h; simp; omega) (fun e => ?_), Below.heap_alloc _ _ _ (heap_lt h)]
    · exact h
    · obtain ⟨_, cur, hc⟩ := hblk k e.symm
      rw [hc] at h
      simp at h
  · rw [flat_snoc]
    simpa using hown'

theorem hno_step {L : List Pr} {j : Nat} {p : Pr} {hj : j < L.length} (h : ∀ t (ht : t < L.length), t < j → L[t] ≠ p) (hq : L[j] ≠ p) : ∀ t (ht : t < L.length), t < j + 1 → L[t] ≠ p := by
  intro t ht htj
  by_cases e : t = j
  · subst e; exact hq
  · exact h t ht (by omega)

set_option maxHeartbeats 1000000 in
theorem run_any (Ps : List Pr) (g cap : Nat) (w : World) (hn2 : Ps.length ≤ 2048) (hg : g < w.heap.size) (hok : ∀ p ∈ Ps, okP p)
    (hc : ∀ i (h : i < Ps.length), w.cell? ⟨g, i * 2, none⟩ = some (.string Ps[i].1) ∧ w.cell? ⟨g, i * 2 + 1, none⟩ = some (.string Ps[i].2)) :
    Calls Yba.prog 5 #[.slice (some ⟨g, 0, none⟩) Ps.length cap] w fun e w' => e = .returned (.bool true) ∧ Below w.heap.size w w' := by
  go_enter Yba.func5, Yba.ntmps5
  go_wp2
  go_loopw [4, 16] (fun m i wr => ∃ (k : Nat) (L : List Pr) (mv : Value) (a : Option Addr) (c : Nat), k ≤ Ps.length ∧ i = .int .i64 k ∧ m = .slice a L.length c ∧ L.length ≤ 1024 ∧ wr.heap[w.heap.size]? = some (ledger mv) ∧
      Held w.heap.size wr mv L ∧ wr.ownsRow (w.heap.size + 1) 27 2 (.slice a L.length c) L.length (flat L) ∧ Below w.heap.size w wr ∧ w.heap.size + 1 ≤ wr.heap.size)
    (fun _ i _ => Ps.length - (intOf i).toNat)
  case atStart => 
    refine ⟨0, [], .map none, none, 0, Nat.zero_le _, rfl, rfl, by simp, ?_, .inl ⟨rfl, rfl⟩, World.ownsRow_nil _ _ _ _, (Below.refl _ _).alloc (Nat.le_refl _) _, by simp⟩
    exact heap_alloc_new w _
  case round =>
    rename World => wo
    obtain ⟨k, L, mv, a, c, hk, rfl, rfl, hL, hG, hH, hown, hnx, hsz⟩ := hrel
    by_cases hlt : k < Ps.length
    · have hcx := hc k (by omega)
      have c0 : wo.cell? ⟨g, k * 2, none⟩ = some (.string (Ps[k]'(by omega)).1) := (hnx.cell (by exact hg)).trans hcx.1
      have c1 : wo.cell? ⟨g, k * 2 + 1, none⟩ = some (.string (Ps[k]'(by omega)).2) := (hnx.cell (by exact hg)).trans hcx.2
      have hokp := hok (Ps[k]'(by omega)) (by simp)
      generalize (Ps[k]'(by omega)) = p at *
      clear hcx hc hok
      go_wp2_with fail
      refine (held_any w.heap.size w.heap.size mv L p hokp _ (Nat.le_refl _) (by rw [Below.heap_alloc _ _ _ (by omega)]; exact hG)
        (hH.kept (fun k es c h => by rw [Below.heap_alloc _ _ _ (heap_lt h)]; exact h)) hL).mono ?_
      rintro e w1 ⟨rfl, mv', L', hadd, hG1, hH1, hS⟩
      have hown1 := row_since hS (hown.alloc (.cells #[.string p.1, .string p.2] 27))
      have hnx1 : Below w.heap.size w w1 := (hnx.alloc (by omega) _).trans hS.below
      have hz1 : wo.heap.size + 1 ≤ w1.heap.size := by have := hS.size; simpa using this
      have hb1 : w1.heap[wo.heap.size]? = some (.cells #[.string p.1, .string p.2] 27 (0, 0)) := by
        rw [hS.high wo.heap.size (by simp) (by omega) (fun es c => by rw [heap_alloc_new]; simp), heap_alloc_new]
      clear hown hG hH hnx hS c0 c1
      rcases hadd with ⟨hfull, rfl⟩ | ⟨hroom, hmem, rfl⟩ | ⟨hroom, hmem, rfl⟩
      · have hfi : ((L'.length : Int) == 1024) = true := by simp; omega
        clear hfull
        go_wp2
        go_roundw
        case rel => exact ⟨k + 1, L', mv', a, c, by omega, by go_num, rfl, hL, hG1, hH1, hown1, hnx1, by omega⟩
        case measure => simp [intOf]; omega
      · have hfi : ((L'.length : Int) == 1024) = false := by simp; omega
        clear hroom
        have c0 : w1.cell? ⟨wo.heap.size, 0, none⟩ = some (.string p.1) := by simp [World.cell?, hb1]
        have c1 : w1.cell? ⟨wo.heap.size, 1, none⟩ = some (.string p.2) := by simp [World.cell?, hb1]
        clear hb1
        obtain ⟨m, rfl, hm1, hm2, hrow⟩ := row_at hown1 (List.ne_nil_of_mem hmem)
        go_wp2
        go_loopw [7, 28] (fun f i wr => ∃ j : Nat, j ≤ L'.length ∧ i = .int .i64 j ∧ f = .bool false ∧ (∀ t (ht : t < L'.length), t < j → L'[t] ≠ p) ∧ Below w1.heap.size w1 wr) (fun _ i _ => L'.length - (intOf i).toNat)
        case atStart => exact ⟨0, Nat.zero_le _, rfl, rfl, fun t _ h => absurd h (by omega), Below.refl _ _⟩
        case round =>
          obtain ⟨j, hj, rfl, rfl, hno, hbx⟩ := hrel
          by_cases hjl : j < L'.length
          · have r0 : wr.cell? ⟨m, j * 2, none⟩ = some (.string L'[j].1) := (hbx.cell (by exact hm2)).trans (hrow j hjl).1
            have r1 : wr.cell? ⟨m, j * 2 + 1, none⟩ = some (.string L'[j].2) := (hbx.cell (by exact hm2)).trans (hrow j hjl).2
            have d0 : wr.cell? ⟨wo.heap.size, 0, none⟩ = some (.string p.1) := (hbx.cell (by exact hz1)).trans c0
            have d1 : wr.cell? ⟨wo.heap.size, 1, none⟩ = some (.string p.2) := (hbx.cell (by exact hz1)).trans c1
            have hzx : wo.heap.size < wr.heap.size := by have := hbx.size; omega
            by_cases hq : L'[j] = p
            · have HQ := hide hq
              rw [hq] at r0 r1
              clear hq
              go_wp2
              have R := rel_carry (hbx.alloc hbx.size (.cells #[.string p.1, .string p.2] 27)) hG1 hH1 hown1 hnx1 (by omega)
              go_roundw
              case rel => exact ⟨k + 1, L', mv', _, c, by omega, by go_num, rfl, hL, R⟩
              case measure => simp [intOf]; omega
            · rcases pr_ne hq with h1 | ⟨h1, h2⟩
              · go_wp2
                go_roundw
                case rel => exact ⟨j + 1, by omega, by go_num, rfl, hno_step hno hq, hbx.alloc hbx.size _⟩
                case measure => simp [intOf]; omega
              · go_wp2
                go_roundw
                case rel => exact ⟨j + 1, by omega, by go_num, rfl, hno_step hno hq, hbx.alloc hbx.size _⟩
                case measure => simp [intOf]; omega
          · exfalso
            obtain ⟨t, ht, e⟩ := List.mem_iff_getElem.1 hmem
            exact hno t ht (by omega) e
      · have hfi : ((L.length : Int) == 1024) = false := by simp; omega
        have c0 : w1.cell? ⟨wo.heap.size, 0, none⟩ = some (.string p.1) := by simp [World.cell?, hb1]
        have c1 : w1.cell? ⟨wo.heap.size, 1, none⟩ = some (.string p.2) := by simp [World.cell?, hb1]
        have hrow : ∀ j (hj : j < L.length), ∃ m, a = some ⟨m, 0, none⟩ ∧ m < w1.heap.size ∧ w1.cell? ⟨m, j * 2, none⟩ = some (.string L[j].1) ∧ w1.cell? ⟨m, j * 2 + 1, none⟩ = some (.string L[j].2) := fun j hj => by
          obtain ⟨m, rfl, hm1, hm2, hrow⟩ := row_at hown1 (by intro e; simp [e] at hj)
          exact ⟨m, rfl, hm2, hrow j hj⟩
        clear hb1
        go_wp2
        go_loopw [7, 28] (fun f i wr => ∃ j : Nat, j ≤ L.length ∧ i = .int .i64 j ∧ f = .bool false ∧ Below w1.heap.size w1 wr) (fun _ i _ => L.length - (intOf i).toNat)
        case atStart => exact ⟨0, Nat.zero_le _, rfl, rfl, Below.refl _ _⟩
        case round =>
          obtain ⟨j, hj, rfl, rfl, hbx⟩ := hrel
          by_cases hjl : j < L.length
          · obtain ⟨m, rfl, hm2, r0', r1'⟩ := hrow j hjl
            have r0 : wr.cell? ⟨m, j * 2, none⟩ = some (.string L[j].1) := (hbx.cell (by exact hm2)).trans r0'
            have r1 : wr.cell? ⟨m, j * 2 + 1, none⟩ = some (.string L[j].2) := (hbx.cell (by exact hm2)).trans r1'
            have d0 : wr.cell? ⟨wo.heap.size, 0, none⟩ = some (.string p.1) := (hbx.cell (by exact hz1)).trans c0
            have d1 : wr.cell? ⟨wo.heap.size, 1, none⟩ = some (.string p.2) := (hbx.cell (by exact hz1)).trans c1
            have hzx : wo.heap.size < wr.heap.size := by have := hbx.size; omega
            have hq : L[j] ≠ p := fun e => hmem (e ▸ List.getElem_mem hjl)
            rcases pr_ne hq with h1 | ⟨h1, h2⟩
            · go_wp2
              go_roundw
              case rel => exact ⟨j + 1, by omega, by go_num, rfl, hbx.alloc hbx.size _⟩
              case measure => simp [intOf]; omega
            · go_wp2
              go_roundw
              case rel => exact ⟨j + 1, by omega, by go_num, rfl, hbx.alloc hbx.size _⟩
              case measure => simp [intOf]; omega
          · have d0 : wr.cell? ⟨wo.heap.size, 0, none⟩ = some (.string p.1) := (hbx.cell (by exact hz1)).trans c0
            have d1 : wr.cell? ⟨wo.heap.size, 1, none⟩ = some (.string p.2) := (hbx.cell (by exact hz1)).trans c1
            have hzx : wo.heap.size < wr.heap.size := by have := hbx.size; omega
            obtain ⟨hGx, hHx, hownx, hnxx, hszx⟩ := rel_carry hbx hG1 hH1 hown1 hnx1 (by omega)
            obtain ⟨i0, hi, hz0, hz1', hz2⟩ := info_parts Yba.info27
            go_wp2_with (at_builtin; refine wpList_append_own _ rfl (.tmp 38) (.tmp 40) 23 rfl (w.heap.size + 1) 27 i0 (.agg #[.string ⟨#[]⟩, .string ⟨#[]⟩]) 2 32 Yba.underlying23 hi hz0 hz1' hz2 rfl (by decide) _ _ _ rfl (hownx.alloc _) ⟨wr.heap.size, 0, none⟩ 1 1 [.string p.1, .string p.2] rfl rfl ?c1 ?c2 ?c3 ?c4 ?c5 ?_)
            case c1 =>
              intro j u hj
              match j, hj with
              | 0, hj => simp at hj; subst hj; simp [Addr.add]
              | 1, hj => simp at hj; subst hj; simp [Addr.add]
            case c2 => intro u hu; simp at hu; rcases hu with rfl | rfl <;> rfl
            case c3 => unfold maxLen; omega
            case c4 => omega
            case c5 => simp; omega
            · intro v' w2 hown' hgrow _
              have R := rel_append hownx hGx hHx hnxx hszx hown' hgrow
              go_wp2
              go_roundw
              case rel =>
                obtain ⟨a', c', hv, R⟩ := R
                exact ⟨k + 1, L ++ [p], mv', a', c', by omega, by go_num, hv, by simp; omega, R⟩
              case measure => simp [intOf]; omega
    · have cc0 : wo.cell? ⟨w.heap.size, 0, none⟩ = some (.int .i64 2) := by simp [World.cell?, hG, ledger]
      have cc1 : wo.cell? ⟨w.heap.size, 1, none⟩ = some (.slice none 0 0) := by simp [World.cell?, hG, ledger]
      have cc2 : wo.cell? ⟨w.heap.size, 2, none⟩ = some mv := by simp [World.cell?, hG, ledger]
      have cc3 : wo.cell? ⟨w.heap.size, 3, none⟩ = some (.map none) := by simp [World.cell?, hG, ledger]
      have hlo : w.heap.size < wo.heap.size := by omega
      have hn36 := fun w0 => run_neq_map_nil (P := Yba.prog) w0 36 _ _ none Yba.underlying36
      have hn34 := fun w0 => run_neq_slice_nil_any (P := Yba.prog) w0 34 _ none 0 0 0 0 Yba.underlying34
      clear hc hok hG
      rcases hH with ⟨rfl, rfl⟩ | ⟨b, D, rfl, hB, hmap, hR, hne⟩
      · have hnil := fun w0 => run_eql_map_nil (P := Yba.prog) w0 35 _ _ none Yba.underlying35
        go_wp2
        go_ret
        exact ⟨rfl, hnx⟩
      · have hpos : 0 < L.length := List.length_pos_iff.2 hne
        have hl0 : ((L.length : Int) == 0) = false := by simp; exact hne
        obtain ⟨m, rfl, hm1, hm2, hrow⟩ := row_at hown hne
        have hmsz := hmap.len Yba.underlying35
        rw [hR.size] at hmsz
        have hokL := hR.ok
        have hlook : ∀ j (hj : j < L.length) (wy : World), Below wo.heap.size wo wy → (Instr.lookup 35 (.map (some b)) (.agg #[.string L[j].1, .string L[j].2]) false).run Yba.prog wy = .ok (.bool true) wy := fun j hj wy hy => by
          have hm' : wy.ownsMap Yba.prog 27 (plainElem Yba.prog 4) b L.length D := by
            obtain ⟨es, cl, hb, r⟩ := hmap
            exact ⟨es, cl, (hy.block b (heap_lt hb)).trans hb, r⟩
          obtain ⟨v, ps, hrun, hv⟩ := hm'.lookup Yba.law Yba.underlying35 (Yba.zero4 wy) (plainElem_bool Yba.underlying4 false) (key_of L[j] (hokL _ (List.getElem_mem hj)))
          rw [hR.val _ (List.getElem_mem hj)] at hv
          have : v = .bool true := by
            unfold plainElem at hv
            rw [Yba.underlying4] at hv
            cases v <;> simp at hv
            rw [hv.1]
          rw [this] at hrun
          exact hrun
        clear hmap hR hokL hne
        go_wp2
        go_loopw [80] (fun i wr => ∃ j : Nat, j ≤ L.length ∧ i = .int .i64 j ∧ Below wo.heap.size wo wr) (fun i _ => L.length - (intOf i).toNat)
        case atStart => exact ⟨0, Nat.zero_le _, rfl, Below.refl _ _⟩
        case round =>
          obtain ⟨j, hj, rfl, hbx⟩ := hrel
          by_cases hjl : j < L.length
          · have r0 : wr.cell? ⟨m, j * 2, none⟩ = some (.string L[j].1) := (hbx.cell (by exact hm2)).trans (hrow j hjl).1
            have r1 : wr.cell? ⟨m, j * 2 + 1, none⟩ = some (.string L[j].2) := (hbx.cell (by exact hm2)).trans (hrow j hjl).2
            have dd2 : wr.cell? ⟨w.heap.size, 2, none⟩ = some (.map (some b)) := (hbx.cell (by exact hlo)).trans cc2
            have hzx : w.heap.size < wr.heap.size := by have := hbx.size; omega
            have hrun := hlook j hjl (wr.alloc (.cells #[.string L[j].1, .string L[j].2] 27)).drew ((hbx.alloc hbx.size _).drew)
            clear hlook hrow
            go_wp2
            go_region
            go_wp2
            go_roundw
            case rel => exact ⟨j + 1, by omega, by go_num, (hbx.alloc hbx.size _).drew⟩
            case measure => simp [intOf]; omega
          · go_wp2
            go_ret
            exact ⟨rfl, hnx.trans (hbx.mono (by omega))⟩

#print axioms run_any
end Go.Proofs.Ybulkbrvc
