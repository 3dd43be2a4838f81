/-
  The walks of AppendUint16, bytes.Equal and AppendWire.
-/
import Derived.Test.YbulkbrvqDoorSlice
import Derived.Laws.AppendOwnNone
import Derived.Laws.BytesArg
import Derived.ArgAppend
namespace Go.Proofs.YbulkbrvqDoor
open Go.ChangeShapes Go.WideShapes Go.ChangeAt Go.RowKit

theorem Ybad.info5 : (Ybad.prog.info? 5).map (fun i => (i.zero, i.size, i.bytes)) = some (some (.int .u8 0), 1, 1) := by kernel_rfl

/-- The numbers as cells. -/
def bs (xs : List Int) : List Value := xs.map (Value.int .u8)
theorem bs_len (xs : List Int) : (bs xs).length = xs.length := by simp [bs]
theorem bs_app (xs ys : List Int) : bs (xs ++ ys) = bs xs ++ bs ys := by simp [bs]
theorem bs_one (xs : List Int) : ∀ u ∈ bs xs, u.oneCell' = true := ints_oneCell _ _

/-- AppendUint16 on a row of the call's own. -/
theorem app16_any (base n : Nat) (v : Value) (xs : List Int) (p : Int) (hp0 : 0 ≤ p) (hp1 : p ≤ 65535) (w : World) (hown : w.ownsRow base 5 1 v n (bs xs)) (hb : base ≤ w.heap.size) (hn : n ≤ 100000) :
    Calls Ybad.prog 12 #[.agg #[], v, .int .u16 p] w fun e w' => ∃ v', e = .returned v' ∧ w'.ownsRow base 5 1 v' (n + 2) (bs (xs ++ [p / 256, p % 256])) ∧ Below base w w' := by
  obtain ⟨i0, hi, hz0, hz1, hz2⟩ := info_parts Ybad.info5
  go_enter Ybad.func12, Ybad.ntmps12
  go_wp2_with (at_builtin; refine wpList_append_own _ rfl (.tmp 7) (.tmp 13) 22 rfl base 5 i0 (.int .u8 0) 1 1 Ybad.underlying22 hi hz0 hz1 hz2 rfl (by decide) v n _ rfl ((hown.alloc _).alloc _) ⟨w.heap.size + 1, 0, none⟩ 2 2 [.int .u8 (p / 256), .int .u8 (p % 256)] rfl rfl ?c1 ?c2 ?c3 ?c4 ?c5 ?_)
  case c1 =>
    intro j u hj
    match j, hj with
    | 0, hj => simp at hj; subst hj; simp [Addr.add]
    | 1, hj => simp at hj; subst hj; simp [Addr.add]
  case c2 => intro u hu; simp at hu; rcases hu with rfl | rfl <;> rfl
  case c3 => unfold maxLen; omega
  case c4 => omega
  case c5 => simp; omega
  intro v' w1 hown' hgrow _
  go_wp2
  go_ret
  refine ⟨v', rfl, by rw [bs_app]; exact hown', (((Below.refl _ _).alloc hb _).alloc (by simp; omega) _).grown hgrow (by simp; omega) (fun k hk => (hown.lt k hk).1)⟩

/-- bytes.Equal, of two slices that turn into strings. -/
theorem equal_any (v1 v2 : Value) (s1 s2 : ByteArray) (w : World) (h1 : (convert 22 9 v1).run Ybad.prog w = .ok (.string s1) w) (h2 : (convert 22 9 v2).run Ybad.prog w = .ok (.string s2) w) :
    Calls Ybad.prog 7 #[v1, v2] w fun e w' => e = .returned (.bool (s1.toList == s2.toList)) ∧ w' = w := by
  go_enter Ybad.func7, Ybad.ntmps7
  go_wp2
  go_ret
  exact ⟨rfl, rfl⟩

theorem own_mono {w : World} {b b' n : Nat} {v : Value} {xs : List Value} (h : w.ownsRow b 5 1 v n xs) (hb : b' ≤ b) : w.ownsRow b' 5 1 v n xs := by
  refine ⟨h.1, ?_⟩
  rcases h.2 with h' | ⟨g, c, cur, e, h1, r⟩
  · exact .inl h'
  · exact .inr ⟨g, c, cur, e, by omega, r⟩

theorem src_cells {w : World} {g : Nat} {xs : List Int} (hc : ∀ i, i < xs.length → w.cell? ⟨g, i, none⟩ = some (.int .u8 (xs.getD i 0))) : ∀ j u, (bs xs)[j]? = some u → w.cell? ((⟨g, 0, none⟩ : Addr).add j) = some u := by
  intro j u hu
  rw [Addr.add_lit, Nat.zero_add]
  have hj : j < xs.length := by have := (List.getElem?_eq_some_iff.1 hu).1; simpa [bs] using this
  rw [hc j hj]
  simp only [bs, List.getElem?_map] at hu
  simpa [hj, List.getD] using hu

set_option maxHeartbeats 4000000 in
/-- AppendWire. -/
theorem wire_any (g n : Nat) (xs ips : List Int) (hi lo p : Int) (z : Option Addr) (a4 a6 : Addr) (w : World) (hG : Gl w a4 a6) (hx : xs.length = n) (hg : g < w.heap.size)
    (hc : ∀ i, i < xs.length → w.cell? ⟨g, i, none⟩ = some (.int .u8 (xs.getD i 0))) (hn : n ≤ 4096) (hips : ips.length ≤ 16) (hp0 : 0 ≤ p) (hp1 : p ≤ 65535)
    (hAs : ∀ W, Gl W a4 a6 → Calls Ybad.prog 11 #[.agg #[.int .u64 hi, .int .u64 lo, .pointer z]] W fun e w' => ∃ v, e = .returned v ∧ Src w' v ips ∧ Below W.heap.size W w') :
    Calls Ybad.prog 5 #[.slice (some ⟨g, 0, none⟩) n n, .agg #[.int .u64 hi, .int .u64 lo, .pointer z, .int .u16 p]] w fun e w' =>
      ∃ v, e = .returned v ∧ w'.ownsRow w.heap.size 5 1 v (n + 1 + ips.length + 2) (bs (xs ++ [(ips.length : Int)] ++ ips ++ [p / 256, p % 256])) ∧ Below w.heap.size w w' := by
  obtain ⟨i0, hi0, hz0, hz1, hz2⟩ := info_parts Ybad.info5
  have HA := hide hAs
  have HX := hide hx
  clear hAs hx
  go_enter Ybad.func5, Ybad.ntmps5
  go_wp2_with fail
  refine (addr_any hi lo z p _).mono ?_
  rintro e w1 ⟨rfl, hb1⟩
  go_wp2_with fail
  have hG1 : Gl w1 a4 a6 := (hG.al _).below hb1
  refine (unhide HA _ hG1).mono ?_
  rintro e w2 ⟨v, rfl, hS, hb2⟩
  have hbw1 : Below w.heap.size w w1 := ((Below.refl _ _).alloc (Nat.le_refl _) _).trans (hb1.mono (by simp))
  have hbw2 : Below w.heap.size w w2 := hbw1.trans (hb2.mono hbw1.size)
  have hbox : w2.heap[w.heap.size]? = some (.cells #[.int .u64 hi, .int .u64 lo, .pointer z, .int .u16 p] 37 (0, 0)) := by
    rw [hb2.block _ (by have := hb1.size; simp at this; omega), hb1.block _ (by simp), heap_alloc_new]
  have hG2 := hG1.below hb2
  have hsz2 : w.heap.size < w2.heap.size := (Array.getElem?_eq_some_iff.1 hbox).1
  have hc2 : ∀ i, i < xs.length → w2.cell? ⟨g, i, none⟩ = some (.int .u8 (xs.getD i 0)) := fun i hi => (hbw2.cell (p := ⟨g, i, none⟩) hg).trans (hc i hi)
  clear hc hb1 hb2 hG hG1 HA
  have hLO : ∀ (X : Obj) (b : Addr), some (⟨g, 0, none⟩ : Addr) = some b → ∀ j u, (bs xs)[j]? = some u → (w2.alloc X).cell? (b.add j) = some u := by
    intro X b hb j u hu
    obtain rfl := Option.some.inj hb
    have h1 := src_cells hc2 j u hu
    rw [((Below.refl w2.heap.size w2).alloc (Nat.le_refl _) X).cell (p := (⟨g, 0, none⟩ : Addr).add j) (by rw [Addr.add_lit]; show g < _; omega)]
    exact h1
  have HL := hide hLO
  clear hLO hc2
  rcases hS with ⟨rfl, rfl⟩ | ⟨sg, sc, rfl, hsg, hscell⟩
  · go_wp2_with (at_builtin; refine wpList_append_grows _ rfl (.tmp 9) (.tmp 13) 22 rfl 5 i0 (.int .u8 0) 1 1 Ybad.underlying22 hi0 hz0 hz1 hz2 rfl (by decide) (some ⟨g, 0, none⟩) n n (bs xs) rfl (fun h => by cases h) (by rw [bs_len, unhide HX]; omega) (unhide HL _) ⟨w2.heap.size, 0, none⟩ 1 1 [.int .u8 0] rfl rfl ?LC ?LD (by omega) (by unfold maxLen; omega) (by omega) ?_)
    case LC =>
      intro j u hj
      match j, hj with
      | 0, hj => simp at hj; subst hj; simp [Addr.add]
    case LD => intro u hu; simp at hu; subst hu; rfl
    intro v1 w3 hown3 hgrow3
    have hbox3 : w3.heap[w.heap.size]? = some (.cells #[.int .u64 hi, .int .u64 lo, .pointer z, .int .u16 p] 37 (0, 0)) := by
      rw [hgrow3.block _ (by simp; omega) (by simp), Below.heap_alloc _ _ _ hsz2]; exact hbox
    have hbw3 : Below w.heap.size w w3 := (hbw2.alloc (by omega) _).grown hgrow3 (by simp; omega) (fun k h => by cases h)
    have hsz3 : w.heap.size < w3.heap.size := (Array.getElem?_eq_some_iff.1 hbox3).1
    have hown4 := own_mono (b' := w.heap.size) hown3 (by omega)
    have k0 : w3.cell? ⟨w.heap.size, 0, none⟩ = some (.int .u64 hi) := by simp [World.cell?, hbox3]
    have k1 : w3.cell? ⟨w.heap.size, 1, none⟩ = some (.int .u64 lo) := by simp [World.cell?, hbox3]
    have k2 : w3.cell? ⟨w.heap.size, 2, none⟩ = some (.pointer z) := by simp [World.cell?, hbox3]
    have k3 : w3.cell? ⟨w.heap.size, 3, none⟩ = some (.int .u16 p) := by simp [World.cell?, hbox3]
    clear hown3 hgrow3 hbox3 hbox
    go_wp2_with (at_builtin; refine wpList_append_own_none rfl (.tmp 14) (.tmp 15) 22 rfl w.heap.size 5 i0 1 Ybad.underlying22 hi0 v1 (n + 1) _ rfl hown4 rfl ?_)
    have hown5 : w3.ownsRow w.heap.size 5 1 v1 (n + 1) (bs (xs ++ [0])) := by rw [bs_app]; exact hown4
    clear hown4
    go_wp2
    go_region_with (first
      | (go_at_call 13; refine (port_any hi lo z p _).mono ?_; rintro e w' ⟨rfl, rfl⟩)
      | (go_at_call 12; refine (app16_any w.heap.size (n + 1) v1 (xs ++ [0]) p hp0 hp1 _ (by exact hown5.alloc _) (by simp; omega) (by omega)).mono ?_; rintro e w' ⟨v', rfl, hown6, hb6⟩))
    all_goals go_wp2
    all_goals go_ret
    all_goals exact ⟨v', rfl, by simpa using hown6, ((hbw3.alloc (by omega) _).drew).trans hb6⟩
  · have hl255 : ((ips.length : Nat) : Int) ≤ 16 := by omega
    go_wp2_with (at_builtin; refine wpList_append_grows _ rfl (.tmp 9) (.tmp 13) 22 rfl 5 i0 (.int .u8 0) 1 1 Ybad.underlying22 hi0 hz0 hz1 hz2 rfl (by decide) (some ⟨g, 0, none⟩) n n (bs xs) rfl (fun h => by cases h) (by rw [bs_len, unhide HX]; omega) (unhide HL _) ⟨w2.heap.size, 0, none⟩ 1 1 [.int .u8 ips.length] rfl rfl ?MC ?MD (by omega) (by unfold maxLen; omega) (by omega) ?_)
    case MC =>
      intro j u hj
      match j, hj with
      | 0, hj => simp at hj; subst hj; simp [Addr.add]
    case MD => intro u hu; simp at hu; subst hu; rfl
    intro v1 w3 hown3 hgrow3
    have hbox3 : w3.heap[w.heap.size]? = some (.cells #[.int .u64 hi, .int .u64 lo, .pointer z, .int .u16 p] 37 (0, 0)) := by
      rw [hgrow3.block _ (by simp; omega) (by simp), Below.heap_alloc _ _ _ hsz2]; exact hbox
    have hbw3 : Below w.heap.size w w3 := (hbw2.alloc (by omega) _).grown hgrow3 (by simp; omega) (fun k h => by cases h)
    have hsz3 : w.heap.size < w3.heap.size := (Array.getElem?_eq_some_iff.1 hbox3).1
    have hcs : ∀ i, i < ips.length → w3.cell? ⟨sg, i, none⟩ = some (.int .u8 (ips.getD i 0)) := fun i hi => by
      have e1 : w3.heap[sg]? = w2.heap[sg]? := by rw [hgrow3.block _ (by simp; omega) (by simp), Below.heap_alloc _ _ _ hsg]
      rw [World.cell?_of_block (a := ⟨sg, i, none⟩) e1]
      exact hscell i hi
    have hown4 := own_mono (b' := w.heap.size) hown3 (by omega)
    have hSC := src_cells hcs
    have HB := hide hbox3
    clear hown3 hgrow3 hbox3 hbox hscell hcs
    go_wp2_with (at_builtin; refine wpList_append_own _ rfl (.tmp 14) (.tmp 15) 22 rfl w.heap.size 5 i0 (.int .u8 0) 1 1 Ybad.underlying22 hi0 hz0 hz1 hz2 rfl (by decide) v1 (n + 1) _ rfl hown4 ⟨sg, 0, none⟩ ips.length sc (bs ips) rfl (by rw [bs_len]; omega) hSC (bs_one _) (by unfold maxLen; omega) (by omega) (by omega) ?_)
    intro v2 w4 hown6 hgrow4 _
    have hne : some w.heap.size ≠ v1.ownBlock := fun e => by
      have h1 := hown4.lt _ e.symm
      rcases hown4.2 with ⟨h0, _⟩ | ⟨gg, cc, cur, hv, _, hh, _⟩
      · rw [h0] at e; simp [Value.ownBlock] at e
      · rw [hv] at e
        simp [Value.ownBlock] at e
        subst e
        rw [unhide HB] at hh
        simp at hh
    have hbox4 : w4.heap[w.heap.size]? = some (.cells #[.int .u64 hi, .int .u64 lo, .pointer z, .int .u16 p] 37 (0, 0)) := by
      rw [hgrow4.block _ hsz3 hne]; exact unhide HB
    have hbw4 : Below w.heap.size w w4 := hbw3.grown hgrow4 (by omega) (fun k hk => (hown4.lt k hk).1)
    have hsz4 : w.heap.size < w4.heap.size := (Array.getElem?_eq_some_iff.1 hbox4).1
    have k0 : w4.cell? ⟨w.heap.size, 0, none⟩ = some (.int .u64 hi) := by simp [World.cell?, hbox4]
    have k1 : w4.cell? ⟨w.heap.size, 1, none⟩ = some (.int .u64 lo) := by simp [World.cell?, hbox4]
    have k2 : w4.cell? ⟨w.heap.size, 2, none⟩ = some (.pointer z) := by simp [World.cell?, hbox4]
    have k3 : w4.cell? ⟨w.heap.size, 3, none⟩ = some (.int .u16 p) := by simp [World.cell?, hbox4]
    have hown5 : w4.ownsRow w.heap.size 5 1 v2 (n + 1 + ips.length) (bs (xs ++ [(ips.length : Int)] ++ ips)) := by
      have e : bs (xs ++ [(ips.length : Int)] ++ ips) = bs xs ++ Value.int .u8 ips.length :: bs ips := by simp [bs]
      rw [e]
      exact hown6
    clear hown4 hown6 hgrow4 HB hbox4 hSC hne
    go_wp2
    go_region_with (first
      | (go_at_call 13; refine (port_any hi lo z p _).mono ?_; rintro e w' ⟨rfl, rfl⟩)
      | (go_at_call 12; refine (app16_any w.heap.size (n + 1 + ips.length) v2 (xs ++ [(ips.length : Int)] ++ ips) p hp0 hp1 _ (by exact hown5.alloc _) (by simp; omega) (by omega)).mono ?_; rintro e w' ⟨v', rfl, hown6, hb6⟩))
    all_goals go_wp2
    all_goals go_ret
    all_goals exact ⟨v', rfl, hown6, ((hbw4.alloc (by omega) _).drew).trans hb6⟩

#print axioms wire_any
end Go.Proofs.YbulkbrvqDoor
