/-
  The law's own walk: LawS3422CExact.
-/
import Derived.Test.YbulkbrvqDoorCall
namespace Go.Proofs.YbulkbrvqDoor
open Go.ChangeShapes Go.WideShapes Go.ChangeAt Go.RowKit

theorem exact_long (a : Option Addr) (n cap : Nat) (k p : Int) (b0 b1 b2 b3 b4 b5 b6 b7 b8 b9 b10 b11 b12 b13 b14 b15 : Int) (w : World) (h : 4096 < n) (hm : n ≤ maxLen) :
    Calls Ybad.prog 3 #[.slice a n cap, .int .u8 k, .agg #[.int .u8 b0, .int .u8 b1, .int .u8 b2, .int .u8 b3, .int .u8 b4, .int .u8 b5, .int .u8 b6, .int .u8 b7, .int .u8 b8, .int .u8 b9, .int .u8 b10, .int .u8 b11, .int .u8 b12, .int .u8 b13, .int .u8 b14, .int .u8 b15], .int .u16 p] w fun e w' => e = .returned (.bool true) ∧ Below w.heap.size w w' := by
  unfold maxLen at hm
  have h' : (4096 : Int) < (n : Int) := by omega
  go_enter Ybad.func3, Ybad.ntmps3
  go_wp2
  go_ret
  exact ⟨rfl, (Below.refl _ _).alloc (Nat.le_refl _) _⟩

theorem made_row {w : World} {base g n : Nat} {xs : List Value} (h : w.ownsRow base 5 1 (.slice (some ⟨g, 0, none⟩) n n) n xs) : ∃ Z : List Value, Z.length = n ∧ w.heap[g]? = some (.cells Z.toArray 5 (0, 0)) := by
  rcases h.2 with ⟨h', _⟩ | ⟨g', c, cur, hv, _, hg, _, _, hcs, _⟩
  · simp at h'
  · simp only [Value.slice.injEq, Option.some.injEq, Addr.mk.injEq, true_and, and_true] at hv
    obtain ⟨rfl, rfl⟩ := hv
    exact ⟨cur.toList, by simpa using hcs, by simpa using hg⟩

set_option maxHeartbeats 8000000 in
theorem exact_short (a : Option Addr) (cap : Nat) (xs : List Int) (k p : Int) (hk0 : 0 ≤ k) (hk1 : k ≤ 255) (hp0 : 0 ≤ p) (hp1 : p ≤ 65535) (b0 b1 b2 b3 b4 b5 b6 b7 b8 b9 b10 b11 b12 b13 b14 b15 : Int) (h0 : isB b0) (h1 : isB b1) (h2 : isB b2) (h3 : isB b3) (h4 : isB b4) (h5 : isB b5) (h6 : isB b6) (h7 : isB b7) (h8 : isB b8) (h9 : isB b9) (h10 : isB b10) (h11 : isB b11) (h12 : isB b12) (h13 : isB b13) (h14 : isB b14) (h15 : isB b15) (a4 a6 : Addr) (w : World) (hG : Gl w a4 a6)
    (hlen : xs.length ≤ 4096) (hP : Row w a xs.length cap xs) :
    Calls Ybad.prog 3 #[.slice a xs.length cap, .int .u8 k, .agg #[.int .u8 b0, .int .u8 b1, .int .u8 b2, .int .u8 b3, .int .u8 b4, .int .u8 b5, .int .u8 b6, .int .u8 b7, .int .u8 b8, .int .u8 b9, .int .u8 b10, .int .u8 b11, .int .u8 b12, .int .u8 b13, .int .u8 b14, .int .u8 b15], .int .u16 p] w fun e w' => e = .returned (.bool true) ∧ Below w.heap.size w w' := by
  obtain ⟨hi, lo, z, ips, hips, H4, H11⟩ := addr_call k hk0 hk1 b0 b1 b2 b3 b4 b5 b6 b7 b8 b9 b10 b11 b12 b13 b14 b15 h0 h1 h2 h3 h4 h5 h6 h7 h8 h9 h10 h11 h12 h13 h14 h15 a4 a6
  obtain ⟨i0, hi0, hz0, hz1, hz2⟩ := info_parts Ybad.info5
  have h' : ¬ (4096 : Int) < (xs.length : Int) := by omega
  have K4 := hide H4
  have K11 := hide H11
  have HP := hide hP
  have HG := hide hG
  clear H4 H11 hP hG h0 h1 h2 h3 h4 h5 h6 h7 h8 h9 h10 h11 h12 h13 h14 h15
  go_enter Ybad.func3, Ybad.ntmps3
  go_wp2_with (at_make; refine wpList_make_full _ rfl _ _ 22 rfl w.heap.size 5 i0 (.int .u8 0) 1 Ybad.underlying22 hi0 hz0 hz1 _ _ _ _ xs.length rfl rfl rfl rfl (by rw [hz2]; omega) (by unfold maxLen; omega) (by simp) ?_)
  intro w1 hown1 hgrow1
  obtain ⟨Z, hZ, hrow1⟩ := made_row hown1
  have hbox1 : w1.heap[w.heap.size]? = some (.cells #[.int .u8 b0, .int .u8 b1, .int .u8 b2, .int .u8 b3, .int .u8 b4, .int .u8 b5, .int .u8 b6, .int .u8 b7, .int .u8 b8, .int .u8 b9, .int .u8 b10, .int .u8 b11, .int .u8 b12, .int .u8 b13, .int .u8 b14, .int .u8 b15] 23 (0, 0)) := by rw [hgrow1.block _ (by simp) (by simp), heap_alloc_new]
  have hbw1 : Below w.heap.size w w1 := ((Below.refl _ _).alloc (Nat.le_refl _) _).grown hgrow1 (by simp) (fun k h => by cases h)
  have hpos : 0 < (bs xs).length → some (⟨w.heap.size + 1, 0, none⟩ : Addr) = some ⟨w.heap.size + 1, 0, none⟩ ∧ ∃ ad, a = some ad ∧ ∀ j v, (bs xs)[j]? = some v → w1.cell? (ad.add j) = some v := by
    intro h0
    refine ⟨rfl, ?_⟩
    obtain ⟨r1, r2, r3⟩ := (unhide HP).below hbw1
    cases a with
    | none => have := (r2 rfl).1; rw [bs_len] at h0; omega
    | some x => exact ⟨x, rfl, r3 x rfl⟩
  have HQ := hide hpos
  have HZ := hide hZ
  have HB := hide hbox1
  clear hown1 hgrow1 hpos hZ hbox1
  go_wp2_with (refine wpList_copy_splice rfl (.tmp 20) (.tmp 21) 22 22 rfl 5 Ybad.underlying22 Ybad.size5 _ _ _ _ _ _ rfl rfl (w.heap.size + 1) 0 Z 5 hrow1 (bs xs) (by rw [bs_len]; simp [Nat.min_def]) (unhide HQ) (by rw [bs_len, unhide HZ]; omega) (bs_one xs) (w.heap.size + 1) w1 (Below.refl _ _) (Nat.le_refl _) ?_)
  intro w2 HG2 hB2
  have hrow2 : w2.heap[w.heap.size + 1]? = some (.cells (bs xs).toArray 5 (0, 0)) := by
    have e : splice Z 0 (bs xs) = bs xs := by
      have : Z.drop (0 + (bs xs).length) = [] := by apply List.drop_eq_nil_of_le; rw [bs_len, unhide HZ]; omega
      simp only [splice]
      rw [this]
      simp
    have := HG2.out
    rw [e] at this
    exact this
  have hbox2 : w2.heap[w.heap.size]? = some (.cells #[.int .u8 b0, .int .u8 b1, .int .u8 b2, .int .u8 b3, .int .u8 b4, .int .u8 b5, .int .u8 b6, .int .u8 b7, .int .u8 b8, .int .u8 b9, .int .u8 b10, .int .u8 b11, .int .u8 b12, .int .u8 b13, .int .u8 b14, .int .u8 b15] 23 (0, 0)) := by rw [hB2.block _ (by omega)]; exact unhide HB
  have hbw2 : Below w.heap.size w w2 := hbw1.trans (hB2.mono (by omega))
  have x0 : w2.cell? ⟨w.heap.size, 0, none⟩ = some (.int .u8 b0) := by simp [World.cell?, hbox2]
  have x1 : w2.cell? ⟨w.heap.size, 1, none⟩ = some (.int .u8 b1) := by simp [World.cell?, hbox2]
  have x2 : w2.cell? ⟨w.heap.size, 2, none⟩ = some (.int .u8 b2) := by simp [World.cell?, hbox2]
  have x3 : w2.cell? ⟨w.heap.size, 3, none⟩ = some (.int .u8 b3) := by simp [World.cell?, hbox2]
  have x4 : w2.cell? ⟨w.heap.size, 4, none⟩ = some (.int .u8 b4) := by simp [World.cell?, hbox2]
  have x5 : w2.cell? ⟨w.heap.size, 5, none⟩ = some (.int .u8 b5) := by simp [World.cell?, hbox2]
  have x6 : w2.cell? ⟨w.heap.size, 6, none⟩ = some (.int .u8 b6) := by simp [World.cell?, hbox2]
  have x7 : w2.cell? ⟨w.heap.size, 7, none⟩ = some (.int .u8 b7) := by simp [World.cell?, hbox2]
  have x8 : w2.cell? ⟨w.heap.size, 8, none⟩ = some (.int .u8 b8) := by simp [World.cell?, hbox2]
  have x9 : w2.cell? ⟨w.heap.size, 9, none⟩ = some (.int .u8 b9) := by simp [World.cell?, hbox2]
  have x10 : w2.cell? ⟨w.heap.size, 10, none⟩ = some (.int .u8 b10) := by simp [World.cell?, hbox2]
  have x11 : w2.cell? ⟨w.heap.size, 11, none⟩ = some (.int .u8 b11) := by simp [World.cell?, hbox2]
  have x12 : w2.cell? ⟨w.heap.size, 12, none⟩ = some (.int .u8 b12) := by simp [World.cell?, hbox2]
  have x13 : w2.cell? ⟨w.heap.size, 13, none⟩ = some (.int .u8 b13) := by simp [World.cell?, hbox2]
  have x14 : w2.cell? ⟨w.heap.size, 14, none⟩ = some (.int .u8 b14) := by simp [World.cell?, hbox2]
  have x15 : w2.cell? ⟨w.heap.size, 15, none⟩ = some (.int .u8 b15) := by simp [World.cell?, hbox2]
  have hsz2 : w.heap.size + 1 < w2.heap.size := (Array.getElem?_eq_some_iff.1 hrow2).1
  have HR2 := hide hrow2
  clear HG2 hB2 hrow2 hbox2 hrow1 HQ HZ HB
  go_wp2_with fail
  refine (unhide K4 _ ((unhide HG).below hbw2)).mono ?_
  rintro e w3 ⟨rv, rfl, hS3, hb3⟩
  obtain ⟨ro, rc, rfl, hRo⟩ := row_of_src hS3
  have hbw3 : Below w.heap.size w w3 := hbw2.trans (hb3.mono hbw2.size)
  have hrow3 : w3.heap[w.heap.size + 1]? = some (.cells (bs xs).toArray 5 (0, 0)) := by rw [hb3.block _ hsz2]; exact unhide HR2
  have HRo := hide hRo
  have HR3 := hide hrow3
  have hsz3 : w.heap.size + 1 < w3.heap.size := (Array.getElem?_eq_some_iff.1 hrow3).1
  clear x0 x1 x2 x3 x4 x5 x6 x7 x8 x9 x10 x11 x12 x13 x14 x15 HR2 hrow3 hRo hS3 hb3 hbw1 hbw2 hsz2
  go_wp2_with fail
  refine (portfrom_any hi lo z p _).mono ?_
  rintro e w4 ⟨rfl, hb4⟩
  have hb34 : Below w3.heap.size w3 w4 := ((Below.refl _ _).alloc (Nat.le_refl _) _).trans (hb4.mono (by simp))
  have hbw4 : Below w.heap.size w w4 := hbw3.trans (hb34.mono hbw3.size)
  have hrow4 : w4.heap[w.heap.size + 1]? = some (.cells (bs xs).toArray 5 (0, 0)) := by rw [hb34.block _ hsz3]; exact unhide HR3
  have HR4 := hide hrow4
  have HRo4 := hide ((unhide HRo).below hb34)
  have hsz4 : w.heap.size + 1 < w4.heap.size := (Array.getElem?_eq_some_iff.1 hrow4).1
  clear hrow4 HR3 HRo hb4 hb34 hbw3 hsz3
  go_wp2_with fail
  refine (wire_any (w.heap.size + 1) xs.length xs ips hi lo p z a4 a6 _ ((unhide HG).below hbw4) rfl hsz4 (fun j hj => ?_) hlen hips hp0 hp1 (unhide K11)).mono ?_
  · rw [cell_of_row w4 _ j _ 5 (0, 0) (unhide HR4)]
    simp [bs, hj, List.getD]
  rintro e w5 ⟨v, rfl, hown5, hb5⟩
  obtain ⟨ga, gc, rfl, hgot⟩ := own_row hown5
  have hbw5 : Below w.heap.size w w5 := hbw4.trans (hb5.mono hbw4.size)
  have hrow5 : w5.heap[w.heap.size + 1]? = some (.cells (bs xs).toArray 5 (0, 0)) := by rw [hb5.block _ hsz4]; exact unhide HR4
  have HR5 := hide hrow5
  have HRo5 := hide ((unhide HRo4).below hb5)
  have HP5 := hide ((unhide HP).below hbw5)
  have HGo := hide hgot
  have hsz5 : w.heap.size + 1 < w5.heap.size := (Array.getElem?_eq_some_iff.1 hrow5).1
  clear hrow5 HR4 HRo4 hb5 hbw4 hsz4 hown5 hgot HP HG K4 K11
  go_wp2_with (at_make; refine wpList_make_own _ rfl _ _ 22 rfl w5.heap.size 5 i0 (.int .u8 0) 1 Ybad.underlying22 hi0 hz0 hz1 _ _ _ (xs.length + 19) rfl rfl (by omega) (by rw [hz2]; omega) (by unfold maxLen; omega) (Nat.le_refl _) ?_)
  intro w6 hown6 hgrow6
  have hb6 : Below w5.heap.size w5 w6 := (Below.refl _ _).grown hgrow6 (Nat.le_refl _) (fun k h => by cases h)
  have HP6 := hide ((unhide HP5).below hb6)
  clear hgrow6
  go_wp2_with (at_builtin; refine wpList_append_fits_any _ rfl (.tmp 38) (.tmp 39) 22 rfl w5.heap.size 5 i0 1 Ybad.underlying22 hi0 hz1 w5.heap.size 0 (xs.length + 19) [] rfl hown6 a xs.length cap (bs xs) rfl (by rw [bs_len]; omega) (unhide HP6).2.1 (unhide HP6).2.2 (bs_one xs) (by omega) ?_)
  intro w7 hown7 hgrow7
  have hb7 : Below w5.heap.size w5 w7 := hb6.grown hgrow7 hb6.size (fun k h => by cases h; exact Nat.le_refl _)
  clear hgrow7 hown6 hb6 HP6
  have hl16 : ((ips.length : Nat) : Int) ≤ 16 := by omega
  go_wp2_with (at_builtin; refine wpList_append_fits _ rfl (.tmp 41) (.tmp 45) 22 rfl w5.heap.size 5 i0 1 Ybad.underlying22 hi0 hz1 w5.heap.size xs.length (xs.length + 19) _ rfl (hown7.alloc _) ⟨w7.heap.size, 0, none⟩ 1 1 [.int .u8 ips.length] rfl rfl (cell_one_new _ _ _) (fun u hu => by simp at hu; subst hu; rfl) (by omega) ?_)
  intro w8 hown8 hgrow8
  have hb8 : Below w5.heap.size w5 w8 := (hb7.alloc hb7.size _).grown hgrow8 (by have := hb7.size; simp; omega) (fun k h => by cases h; exact Nat.le_refl _)
  have HRo8 := hide ((unhide HRo5).below hb8)
  clear hgrow8 hown7 hb7
  go_wp2_with (at_builtin; refine wpList_append_fits_any _ rfl (.tmp 47) (.tmp 48) 22 rfl w5.heap.size 5 i0 1 Ybad.underlying22 hi0 hz1 w5.heap.size (xs.length + 1) (xs.length + 19) _ rfl hown8 ro ips.length rc (bs ips) rfl (by rw [bs_len]; omega) (unhide HRo8).2.1 (unhide HRo8).2.2 (bs_one ips) (by omega) ?_)
  intro w9 hown9 hgrow9
  have hb9 : Below w5.heap.size w5 w9 := hb8.grown hgrow9 hb8.size (fun k h => by cases h; exact Nat.le_refl _)
  clear hgrow9 hown8 hb8 HRo8
  go_wp2_with (at_builtin; refine wpList_append_fits _ rfl (.tmp 50) (.tmp 56) 22 rfl w5.heap.size 5 i0 1 Ybad.underlying22 hi0 hz1 w5.heap.size (xs.length + 1 + ips.length) (xs.length + 19) _ rfl (hown9.alloc _) ⟨w9.heap.size, 0, none⟩ 2 2 [.int .u8 (p / 256), .int .u8 (p % 256)] rfl rfl ?d1 ?d2 (by omega) ?_)
  case d1 =>
    intro j u hj
    match j, hj with
    | 0, hj => simp at hj; subst hj; simp [Addr.add]
    | 1, hj => simp at hj; subst hj; simp [Addr.add]
  case d2 => intro u hu; simp at hu; rcases hu with rfl | rfl <;> rfl
  intro w10 hown10 hgrow10
  have hb10 : Below w5.heap.size w5 w10 := (hb9.alloc hb9.size _).grown hgrow10 (by have := hb9.size; simp; omega) (fun k h => by cases h; exact Nat.le_refl _)
  have hwant : w10.ownsRow w5.heap.size 5 1 (.slice (some ⟨w5.heap.size, 0, none⟩) (xs.length + 1 + ips.length + 2) (xs.length + 19)) (xs.length + 1 + ips.length + 2) (bs (xs ++ [(ips.length : Int)] ++ ips ++ [p / 256, p % 256])) := by
    have e : bs (xs ++ [(ips.length : Int)] ++ ips ++ [p / 256, p % 256]) = bs xs ++ [.int .u8 ips.length] ++ bs ips ++ [.int .u8 (p / 256), .int .u8 (p % 256)] := by simp [bs]
    rw [e]
    simpa using hown10
  obtain ⟨wa, wc, hwv, hwr⟩ := own_row hwant
  simp only [Value.slice.injEq, true_and] at hwv
  obtain ⟨rfl, rfl⟩ := hwv
  have HS2 := hide (row_str hwr)
  have HS1 := hide (row_str ((unhide HGo).below hb10))
  have HS3 := hide (row_str ((unhide HP5).below hb10))
  have hrow10 : w10.heap[w.heap.size + 1]? = some (.cells (bs xs).toArray 5 (0, 0)) := by rw [hb10.block _ hsz5]; exact unhide HR5
  have HS4 := hide (row_str (w := w10) (a := some ⟨w.heap.size + 1, 0, none⟩) (n := xs.length) (cap := xs.length) (xs := xs) ⟨rfl, fun h => by (cases h), fun x hx j u hu => by
    obtain rfl := Option.some.inj hx
    rw [Addr.add_lit, Nat.zero_add, cell_of_row w10 _ j _ 5 (0, 0) hrow10]
    simpa using hu⟩)
  have hbw10 : Below w.heap.size w w10 := hbw5.trans (hb10.mono hbw5.size)
  clear hwr hwant hown10 hgrow10 hrow10 hb10 hb9 hown9 HR5 HRo5 HP5 HGo hbw5 hsz5
  go_wp2_with fail
  refine (equal_any _ _ _ _ _ (unhide HS1) (unhide HS2)).mono ?_
  rintro e w11 ⟨rfl, rfl⟩
  rw [beq_self_eq_true]
  go_wp2_with fail
  refine (equal_any _ _ _ _ _ (unhide HS4) (unhide HS3)).mono ?_
  rintro e w12 ⟨rfl, rfl⟩
  rw [beq_self_eq_true]
  go_wp2
  go_ret
  exact ⟨rfl, hbw10⟩

#print axioms exact_short
end Go.Proofs.YbulkbrvqDoor
