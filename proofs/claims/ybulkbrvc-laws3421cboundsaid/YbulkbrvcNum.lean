/-
  The walk of zzs3421cnum: it returns SOME string of at most as many bytes as the number counts (all that the law above needs of it).
-/
import Derived.Test.YbulkbrvcHeld
import Derived.Laws.AppendOwnNone
import Derived.Laws.BytesArg
namespace Go.Proofs.Ybulkbrvc
open Go.ChangeShapes Go.WideShapes Go.ChangeAt Go.RowKit

theorem Yba.info5 : (Yba.prog.info? 5).map (fun i => (i.zero, i.size, i.bytes)) = some (some (.int .u8 0), 1, 1) := by kernel_rfl

/-- The digits so far: nil, or a row of the call's own. -/
def Dig (B : Nat) (w : World) (v : Value) (xs : List Int) : Prop :=
  (v = .slice none 0 0 ∧ xs = []) ∨ ∃ g cap, v = .slice (some ⟨g, 0, none⟩) xs.length cap ∧ w.ownsRow B 5 1 (.slice (some ⟨g, 0, none⟩) xs.length cap) xs.length (xs.map (Value.int .u8))

theorem dig_of {B n : Nat} {w : World} {v : Value} {xs : List Int} (h : w.ownsRow B 5 1 v n (xs.map (Value.int .u8))) (hn : xs.length = n) (h0 : 0 < n) : Dig B w v xs := by
  subst hn
  rcases h.2 with ⟨_, h'⟩ | ⟨g, cap, cur, rfl, _⟩
  · omega
  · exact .inr ⟨g, cap, rfl, h⟩

set_option maxHeartbeats 1000000 in
theorem num_any (i : Int) (h0 : 0 ≤ i) (h1 : i ≤ 4096) (w : World) :
    Calls Yba.prog 6 #[.int .i64 i] w fun e w' => ∃ s : ByteArray, e = .returned (.string s) ∧ s.size ≤ 4096 ∧ Below w.heap.size w w' := by
  by_cases hz : i ≤ 0
  · go_enter Yba.func6, Yba.ntmps6
    go_wp2
    go_ret
    exact ⟨_, rfl, by simp [ByteArray.size], Below.refl _ _⟩
  · obtain ⟨i0, hi, hz0, hz1, hz2⟩ := info_parts Yba.info5
    go_enter Yba.func6, Yba.ntmps6
    go_wp2
    go_loopw [0, 3] (fun t v wr => ∃ (x : Int) (xs : List Int), 0 ≤ x ∧ x + xs.length ≤ i ∧ t = .int .i64 x ∧ Dig w.heap.size wr v xs ∧ Below w.heap.size w wr) (fun t _ _ => (intOf t).toNat)
    case atStart => exact ⟨i, [], h0, by simp, rfl, .inl ⟨rfl, rfl⟩, Below.refl _ _⟩
    case round =>
      obtain ⟨x, xs, hx0, hx1, rfl, hd, hnx⟩ := hrel
      by_cases hlt : 0 < x
      · have hsz := hnx.size
        rcases hd with ⟨rfl, rfl⟩ | ⟨g, cap, rfl, hown⟩
        · have hl := World.ownsRow_lit (base := w.heap.size) (e := 5) (size := 1) wr #[.int .u8 (48 + x % 10)] 1 hsz (by unfold maxLen; omega) rfl
          have hd1 : Dig w.heap.size (wr.alloc (.cells #[.int .u8 (48 + x % 10)] 5)) (.slice (some ⟨wr.heap.size, 0, none⟩) 1 1) [48 + x % 10] := dig_of (n := 1) hl rfl (by omega)
          go_wp2_with (at_builtin; refine wpList_append_own_none rfl (.tmp 12) (.tmp 13) 40 rfl w.heap.size 5 i0 1 Yba.underlying40 hi _ 1 _ rfl hl rfl ?_)
          go_roundw
          case rel => exact ⟨x / 10, [48 + x % 10], by omega, by simp at hx1 ⊢; omega, by go_num, hd1, hnx.alloc hsz _⟩
          case measure => simp [intOf]; omega
        · have hl := World.ownsRow_lit (base := w.heap.size) (e := 5) (size := 1) wr #[.int .u8 (48 + x % 10)] 1 hsz (by unfold maxLen; omega) rfl
          have hcells := (hown.alloc (.cells #[.int .u8 (48 + x % 10)] 5)).cells (g := g) rfl
          have hbound : 1 + xs.length ≤ 4097 := by omega
          go_wp2_with (at_builtin; refine wpList_append_own _ rfl (.tmp 12) (.tmp 13) 40 rfl w.heap.size 5 i0 (.int .u8 0) 1 1 Yba.underlying40 hi hz0 hz1 hz2 rfl (by decide) _ _ _ rfl hl ⟨g, 0, none⟩ xs.length cap (xs.map (Value.int .u8)) rfl (by simp) hcells (ints_oneCell _ _) (by unfold maxLen; omega) (by omega) (by simp; omega) ?_)
          intro v' w1 hown' hgrow _
          have hd1 : Dig w.heap.size w1 v' ((48 + x % 10) :: xs) := dig_of (n := 1 + xs.length) (by simpa using hown') (by simp; omega) (by omega)
          have hnx1 : Below w.heap.size w w1 := (hnx.alloc hsz (.cells #[.int .u8 (48 + x % 10)] 5)).grown hgrow (by simp; omega) (fun k hk => by simp [Value.ownBlock] at hk; omega)
          clear hown' hgrow hcells hown hl
          go_wp2
          go_roundw
          case rel => exact ⟨x / 10, (48 + x % 10) :: xs, by omega, by simp at hx1 ⊢; omega, by go_num, hd1, hnx1⟩
          case measure => simp [intOf]; omega
      · rcases hd with ⟨rfl, rfl⟩ | ⟨g, cap, rfl, hown⟩
        · have hcv := fun (w0 : World) => run_convert_bytes_nil (P := Yba.prog) w0 40 5 Yba.underlying40 Yba.underlying5 0 0 9 Yba.underlying9
          go_wp2
          go_ret
          exact ⟨_, rfl, by simp [ByteArray.size], hnx⟩
        · have hcv := run_convert_bytes_arg (P := Yba.prog) wr 40 5 Yba.underlying40 Yba.underlying5 g 0 xs.length cap xs rfl (fun j hj => by
            rw [Nat.zero_add, hown.cellAt j (by omega)]
            simp [hj, List.getD]) 9 Yba.underlying9
          go_wp2
          go_ret
          exact ⟨_, rfl, by simp [strOfNums_size]; omega, hnx⟩

#print axioms num_any
end Go.Proofs.Ybulkbrvc
