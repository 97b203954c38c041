import Derived.Test.Qxb6001803aRows
import Derived.WalkKit
import Derived.WalkSpells
import Derived.WalkLawsBesides
namespace Go.Proofs.Qxb6001803a.Set
open Go.RowKit

theorem info9 : (Try.prog.info? 9).map (fun i => (i.zero, i.size, i.bytes)) = some (some (.string ⟨#[]⟩), 1, 16) := by kernel_rfl

/-- The call has answered some bool. -/
def SomeBool (e : Ending) : Prop := ∃ t, e = .returned (.bool t)
/-- The call has answered some bool, true only if len is small. -/
def SmallBool (len : Nat) (e : Ending) : Prop := ∃ t, e = .returned (.bool t) ∧ (t = true → len ≤ 65536)

/-- zzBytes_FnHasElementAfterAdd, no element. -/
theorem bytes11_zero (ao : Option Addr) (cap : Nat) (x y : ByteArray) (w : World) :
    Calls Try.prog 11 #[.slice ao 0 cap, .string x, .string y] w fun e w' => SomeBool e ∧ w' = w := by
  go_enter Try.func11, Try.ntmps11
  go_wp2
  refine wp_loop_rounds 1 ?_
  rw [rounds_succ]
  go_wp2
  all_goals
    go_ret
    exact ⟨⟨_, rfl⟩, rfl⟩

/-- zzBytes_FnHasElementAfterAdd: it answers some bool and leaves the world as it was. -/
theorem bytes11 (b off len cap : Nat) (ss : List ByteArray) (x y : ByteArray) (w : World) (hM : len ≤ maxLen) (hl : len ≤ ss.length) (hc : ∀ i, i < ss.length → w.cell? ⟨b, off + i, none⟩ = some (.string (ss.getD i ByteArray.empty))) :
    Calls Try.prog 11 #[.slice (some ⟨b, off, none⟩) len cap, .string x, .string y] w fun e w' => SomeBool e ∧ w' = w := by
  unfold maxLen at hM
  by_cases hbig : 1048576 < len
  · go_enter Try.func11, Try.ntmps11
    go_wp2
    go_ret
    exact ⟨⟨_, rfl⟩, rfl⟩
  · have hd : decide (1048576 < (len : Int)) = false := by simp; omega
    go_enter Try.func11, Try.ntmps11
    go_wp2
    go_loop [7, 8] (fun z i => ∃ k : Nat, k ≤ len ∧ i = .int .i64 k ∧ ∃ q : Int, z = .int .i64 q) (fun _ i => len - (intOf i).toNat)
    case atStart => exact ⟨0, Nat.zero_le _, rfl, _, rfl⟩
    case round =>
      obtain ⟨k, hk, rfl, q, rfl⟩ := hrel
      by_cases hlt : k < len
      · obtain ⟨s, hs⟩ : ∃ s, s = ss.getD k ByteArray.empty := ⟨_, rfl⟩
        have hck : w.cell? ⟨b, off + k, none⟩ = some (.string s) := by rw [hs]; exact hc k (by omega)
        clear hs hc
        go_wp2
        · go_ret
          exact ⟨⟨_, rfl⟩, rfl⟩
        · go_ret
          exact ⟨⟨_, rfl⟩, rfl⟩
        · go_round
          case rel => exact ⟨k + 1, by omega, by go_num, _, rfl⟩
          case measure => simp [intOf]; omega
      · clear hc
        go_wp2
        all_goals
          go_ret
          exact ⟨⟨_, rfl⟩, rfl⟩

theorem ok7_zero (ao : Option Addr) (cap : Nat) (x y : ByteArray) (w : World) (hx : x.size ≤ maxLen) (hy : y.size ≤ maxLen) :
    Calls Try.prog 7 #[.slice ao 0 cap, .string x, .string y, .int .i64 1] w fun e w' => SmallBool 0 e ∧ w' = w := by
  unfold maxLen at hx hy
  by_cases h1 : 1048576 < x.size
  · go_enter Try.func7, Try.ntmps7
    go_wp2
    go_ret
    exact ⟨⟨_, rfl, fun _ => by omega⟩, rfl⟩
  · by_cases h2 : 1048576 < y.size
    · go_enter Try.func7, Try.ntmps7
      go_wp2
      go_ret
      exact ⟨⟨_, rfl, fun _ => by omega⟩, rfl⟩
    · by_cases h3 : 1048576 < (x.size : Int) + y.size + 16
      · go_enter Try.func7, Try.ntmps7
        go_wp2
        go_ret
        exact ⟨⟨_, rfl, fun _ => by omega⟩, rfl⟩
      · go_enter Try.func7, Try.ntmps7
        go_wp2
        refine wp_loop_rounds 1 ?_
        rw [rounds_succ]
        go_wp2
        go_ret
        exact ⟨⟨_, rfl, fun _ => by omega⟩, rfl⟩

set_option maxRecDepth 100000 in
theorem ok7 (b off len cap : Nat) (ss : List ByteArray) (x y : ByteArray) (w : World) (hM : len ≤ maxLen) (hx : x.size ≤ maxLen) (hy : y.size ≤ maxLen) (hl : len ≤ ss.length) (hc : ∀ i, i < ss.length → w.cell? ⟨b, off + i, none⟩ = some (.string (ss.getD i ByteArray.empty))) :
    Calls Try.prog 7 #[.slice (some ⟨b, off, none⟩) len cap, .string x, .string y, .int .i64 1] w fun e w' => SmallBool len e ∧ w' = w := by
  unfold maxLen at hM hx hy
  by_cases hbig : 65536 < len
  · go_enter Try.func7, Try.ntmps7
    go_wp2
    go_ret
    exact ⟨⟨false, rfl, fun h => by cases h⟩, rfl⟩
  · by_cases h1 : 1048576 < x.size
    · go_enter Try.func7, Try.ntmps7
      go_wp2
      go_ret
      exact ⟨⟨_, rfl, fun _ => by omega⟩, rfl⟩
    · by_cases h2 : 1048576 < y.size
      · go_enter Try.func7, Try.ntmps7
        go_wp2
        go_ret
        exact ⟨⟨_, rfl, fun _ => by omega⟩, rfl⟩
      · by_cases h3 : 1048576 < (x.size : Int) + y.size + 16 * ((len : Int) + 1)
        · go_enter Try.func7, Try.ntmps7
          go_wp2
          go_ret
          exact ⟨⟨_, rfl, fun _ => by omega⟩, rfl⟩
        · go_enter Try.func7, Try.ntmps7
          go_wp2
          go_loop [9, 10] (fun z i => ∃ k : Nat, k ≤ len ∧ i = .int .i64 k ∧ ∃ q : Int, z = .int .i64 q) (fun _ i => len - (intOf i).toNat)
          case atStart => exact ⟨0, Nat.zero_le _, rfl, _, rfl⟩
          case round =>
            obtain ⟨k, hk, rfl, q, rfl⟩ := hrel
            by_cases hlt : k < len
            · obtain ⟨s, hs⟩ : ∃ s, s = ss.getD k ByteArray.empty := ⟨_, rfl⟩
              have hck : w.cell? ⟨b, off + k, none⟩ = some (.string s) := by rw [hs]; exact hc k (by omega)
              clear hs hc h1 h2 h3 hx hy
              go_wp2
              · go_ret
                exact ⟨⟨_, rfl, fun _ => by omega⟩, rfl⟩
              · go_ret
                exact ⟨⟨_, rfl, fun _ => by omega⟩, rfl⟩
              · go_round
                case rel => exact ⟨k + 1, by omega, by go_num, _, rfl⟩
                case measure => simp [intOf]; omega
            · clear hc
              go_wp2
              go_ret
              exact ⟨⟨_, rfl, fun _ => by omega⟩, rfl⟩

/-- cloneSet at nil. -/
theorem clone8_nil (w : World) :
    Calls Try.prog 8 #[.slice none 0 0] w fun e w' => e = .returned (.slice none 0 0) ∧ w' = w := by
  have q22 : ∀ (w : World) (a : Option Addr) (n c n' c' : Nat), (binOp .eql 22 (.slice a n c) (.slice none n' c')).run Try.prog w = .ok (.bool a.isNone) w := fun w a n c n' c' => Lib.run_eql_slice_nil w _ _ a n c n' c' Try.underlying22
  go_enter Try.func8, Try.ntmps8
  go_wp2
  go_ret
  exact ⟨rfl, rfl⟩

/-- cloneSet at an empty slice that is not nil. -/
theorem clone8_zero (x : Addr) (cap : Nat) (w : World) :
    Calls Try.prog 8 #[.slice (some x) 0 cap] w fun e w' => e = .returned (.slice (some ⟨w.heap.size, 0, none⟩) 0 0) ∧ Below w.heap.size w w' ∧ w'.ownsRow w.heap.size 9 1 (.slice (some ⟨w.heap.size, 0, none⟩) 0 0) 0 [] := by
  have q22 : ∀ (w : World) (a : Option Addr) (n c n' c' : Nat), (binOp .eql 22 (.slice a n c) (.slice none n' c')).run Try.prog w = .ok (.bool a.isNone) w := fun w a n c n' c' => Lib.run_eql_slice_nil w _ _ a n c n' c' Try.underlying22
  obtain ⟨i0, hi, hz0, hz1, hz2⟩ := info_parts info9
  go_enter Try.func8, Try.ntmps8
  go_wp2_with (at_make; refine wpList_make_full _ rfl _ _ 22 rfl w.heap.size 9 i0 (.string ⟨#[]⟩) 1 Try.underlying22 hi hz0 hz1 _ _ _ _ 0 rfl rfl rfl rfl (by omega) (by unfold maxLen; omega) (Nat.le_refl _) ?_; intro w1 hown hgrow)
  refine wp_loop_rounds 1 ?_
  rw [rounds_succ]
  go_wp2
  go_ret
  exact ⟨rfl, (Below.refl _ _).grown hgrow (Nat.le_refl _) (by simp), by simpa [toList_madeCells_one, Value.cells] using hown⟩

theorem mixed_set (ss : List ByteArray) (len k : Nat) (hk : k < len) (hl : len ≤ ss.length) :
    (ss.take k ++ List.replicate (len - k) ByteArray.empty).set k (ss.getD k ByteArray.empty) = ss.take (k + 1) ++ List.replicate (len - (k + 1)) ByteArray.empty := by
  have hkl : k < ss.length := by omega
  have hlen : (ss.take k).length = k := by rw [List.length_take]; omega
  rw [List.take_succ_eq_append_getElem hkl, List.set_append_right _ _ (by omega), hlen, Nat.sub_self]
  have e : len - k = (len - (k + 1)) + 1 := by omega
  rw [e, List.replicate_succ, List.set_cons_zero, List.append_assoc]
  simp [List.getD, hkl]

/-- cloneSet at a slice that holds something. -/
theorem clone8 (b off len cap : Nat) (ss : List ByteArray) (w : World) (hm : len ≤ 65536) (hl : len ≤ ss.length) (hcell : ∀ i, i < ss.length → w.cell? ⟨b, off + i, none⟩ = some (.string (ss.getD i ByteArray.empty))) :
    Calls Try.prog 8 #[.slice (some ⟨b, off, none⟩) len cap] w fun e w' => e = .returned (.slice (some ⟨w.heap.size, 0, none⟩) len len) ∧ Below w.heap.size w w' ∧ w'.ownsRow w.heap.size 9 1 (.slice (some ⟨w.heap.size, 0, none⟩) len len) len ((ss.take len).map Value.string) := by
  have q22 : ∀ (w : World) (a : Option Addr) (n c n' c' : Nat), (binOp .eql 22 (.slice a n c) (.slice none n' c')).run Try.prog w = .ok (.bool a.isNone) w := fun w a n c n' c' => Lib.run_eql_slice_nil w _ _ a n c n' c' Try.underlying22
  obtain ⟨i0, hi, hz0, hz1, hz2⟩ := info_parts info9
  go_enter Try.func8, Try.ntmps8
  go_wp2_with (at_make; refine wpList_make_full _ rfl _ _ 22 rfl w.heap.size 9 i0 (.string ⟨#[]⟩) 1 Try.underlying22 hi hz0 hz1 _ _ _ _ len rfl rfl rfl rfl (by rw [hz2]; omega) (by unfold maxLen; omega) (Nat.le_refl _) ?_; intro w1 hown hgrow)
  go_loopw [4] (fun i wr => ∃ k : Nat, k ≤ len ∧ i = .int .i64 k ∧ Below w.heap.size w wr ∧ wr.ownsRow w.heap.size 9 1 (.slice (some ⟨w.heap.size, 0, none⟩) len len) len ((ss.take k ++ List.replicate (len - k) ByteArray.empty).map Value.string)) (fun i _ => len - (intOf i).toNat)
  case atStart =>
    refine ⟨0, Nat.zero_le _, rfl, (Below.refl _ _).grown hgrow (Nat.le_refl _) (by simp), ?_⟩
    have e : (List.take 0 ss ++ List.replicate (len - 0) ByteArray.empty).map Value.string = List.replicate len (Value.string ⟨#[]⟩) := by
      have e0 : ByteArray.empty = ⟨#[]⟩ := rfl
      simp [e0]
    rw [e]
    simpa [toList_madeCells_one, Value.cells] using hown
  case round =>
    clear hown hgrow
    obtain ⟨k, hk, rfl, hbel, hown⟩ := hrel
    by_cases hlt : k < len
    · have hc0 := hcell k (by omega)
      have hbb : b < w.heap.size := World.block_lt_of_cell? _ _ hc0
      obtain ⟨s, hs⟩ : ∃ s, s = ss.getD k ByteArray.empty := ⟨_, rfl⟩
      have hc : wr.cell? ⟨b, off + k, none⟩ = some (.string s) := by rw [hs]; exact (hbel.cell (p := ⟨b, off + k, none⟩) hbb).trans hc0
      have hd : wr.cell? ⟨w.heap.size, k, none⟩ = some (.string ByteArray.empty) := by
        rw [hown.cellAt k (by omega)]
        have h1 : (ss.take k).length = k := by simp; omega
        rw [List.getElem?_map, List.getElem?_append_right (by omega), h1]
        simp [show 0 < len - k by omega]
      have hf := hown.frozenAt k
      have R : Below w.heap.size w (wr.setCell ⟨w.heap.size, k, none⟩ (.string s)) ∧ (wr.setCell ⟨w.heap.size, k, none⟩ (.string s)).ownsRow w.heap.size 9 1 (.slice (some ⟨w.heap.size, 0, none⟩) len len) len ((ss.take (k + 1) ++ List.replicate (len - (k + 1)) ByteArray.empty).map Value.string) :=
        ⟨hbel.setCell (Nat.le_refl _) _, by rw [← mixed_set ss len k hlt hl, List.map_set, ← hs]; exact (hown.stored k _).1⟩
      have HR : Hid (Below w.heap.size w (wr.setCell ⟨w.heap.size, k, none⟩ (.string s)) ∧ (wr.setCell ⟨w.heap.size, k, none⟩ (.string s)).ownsRow w.heap.size 9 1 (.slice (some ⟨w.heap.size, 0, none⟩) len len) len ((ss.take (k + 1) ++ List.replicate (len - (k + 1)) ByteArray.empty).map Value.string)) := R
      clear R hown hbel hcell hs hc0
      go_wp2
      go_roundw
      case rel => exact ⟨k + 1, by omega, by go_num, HR.out.1, HR.out.2⟩
      case measure => simp [intOf]; omega
    · obtain rfl : k = len := by omega
      go_wp2
      go_ret
      refine ⟨rfl, hbel, ?_⟩
      simpa using hown
end Go.Proofs.Qxb6001803a.Set
