import Derived.Test.Qxb6001778aRows
import Derived.WalkKit
import Derived.WalkSpells
import Derived.WalkLawsBesides
import Derived.Deep.QuietTactic
import Derived.BigQuiet
namespace Go.Proofs.Qxb6001778a.Scan
open Go.RowKit

theorem info5 : (Try.prog.info? 5).map (fun i => (i.zero, i.size, i.bytes)) = some (some (.int .u8 0), 1, 1) := by kernel_rfl

/-- zzBytes_FnValueNextFalseAfterValueRead: it answers some bool and leaves the world as it was. -/
theorem bytes6 (a0 : Int) (a1 : Option Addr) (len1 cap1 : Nat) (w : World) :
    Calls Try.prog 6 #[.int .i64 a0, .slice a1 len1 cap1] w fun e w' => (∃ b, e = .returned (.bool b)) ∧ w' = w := by
  go_enter Try.func6, Try.ntmps6
  go_wp2
  all_goals
    go_ret
    exact ⟨⟨_, rfl⟩, rfl⟩

/-- valueNext: false in the three states that follow a value. -/
theorem next17 (b : Nat) (st : Int) (w : World) (hc : w.cell? ⟨b, 2, none⟩ = some (.int .i64 st)) (h : st = 1 ∨ st = 4 ∨ st = 9) :
    Calls Try.prog 17 #[.pointer (some ⟨b, 0, none⟩)] w fun e w' => e = .returned (.bool false) ∧ w' = w := by
  rcases h with rfl | rfl | rfl
  all_goals
    go_enter Try.func17, Try.ntmps17
    go_wp2
    go_ret
    exact ⟨rfl, rfl⟩

/-- valueRead at an empty 'open'. -/
theorem read16_empty (b : Nat) (ao : Option Addr) (cap : Nat) (u : Value) (w : World) (h3 : w.cell? ⟨b, 3, none⟩ = some (.slice ao 0 cap)) (h2 : w.cell? ⟨b, 2, none⟩ = some u) (hf : w.frozen? ⟨b, 2, none⟩ = false) :
    Calls Try.prog 16 #[.pointer (some ⟨b, 0, none⟩)] w fun e w' => e = .returned (.tuple #[]) ∧ w' = w.setCell ⟨b, 2, none⟩ (.int .i64 1) := by
  go_enter Try.func16, Try.ntmps16
  go_wp2
  go_end0
  exact ⟨rfl, rfl⟩

/-- valueRead at an 'open' that is not empty: the last byte decides between two states. -/
theorem read16_full (b g n cap : Nat) (z : Int) (u : Value) (w : World) (hn : 1 ≤ n) (hm : n ≤ 1048576) (h3 : w.cell? ⟨b, 3, none⟩ = some (.slice (some ⟨g, 0, none⟩) n cap)) (h2 : w.cell? ⟨b, 2, none⟩ = some u) (hf : w.frozen? ⟨b, 2, none⟩ = false)
    (hz : w.cell? ⟨g, n - 1, none⟩ = some (.int .u8 z)) :
    Calls Try.prog 16 #[.pointer (some ⟨b, 0, none⟩)] w fun e w' => e = .returned (.tuple #[]) ∧ ∃ nq st, (st = 1 ∨ st = 4 ∨ st = 9) ∧ w' = (w.setCell ⟨b, 2, none⟩ (.int .i64 st)).drewN nq := by
  have hne : ((n : Int) == 0) = false := by simp; omega
  have hb1 : (0 : Int) ≤ (n : Int) - 1 := by omega
  have hb2 : (n : Int) - 1 < (n : Int) := by omega
  go_enter Try.func16, Try.ntmps16
  go_wp2
  go_quiet (fail)
  go_wp2
  · go_end0
    exact ⟨rfl, _, 4, Or.inr (Or.inl rfl), rfl⟩
  · go_end0
    exact ⟨rfl, _, 9, Or.inr (Or.inr rfl), rfl⟩

/-- zzCloneBytes at nil. -/
theorem clone7_nil (w : World) :
    Calls Try.prog 7 #[.slice none 0 0] w fun e w' => e = .returned (.slice none 0 0) ∧ w' = w := by
  have q22 : ∀ (w : World) (a : Option Addr) (n c n' c' : Nat), (binOp .eql 22 (.slice a n c) (.slice none n' c')).run Try.prog w = .ok (.bool a.isNone) w := fun w a n c n' c' => Lib.run_eql_slice_nil w _ _ a n c n' c' Try.underlying22
  go_enter Try.func7, Try.ntmps7
  go_wp2
  go_ret
  exact ⟨rfl, rfl⟩

/-- zzCloneBytes at an empty slice that is not nil. -/
theorem clone7_empty (x : Addr) (cap : Nat) (w : World) :
    Calls Try.prog 7 #[.slice (some x) 0 cap] w fun e w' => e = .returned (.slice (some ⟨w.heap.size, 0, none⟩) 0 0) ∧ Below w.heap.size w w' := by
  have q22 : ∀ (w : World) (a : Option Addr) (n c n' c' : Nat), (binOp .eql 22 (.slice a n c) (.slice none n' c')).run Try.prog w = .ok (.bool a.isNone) w := fun w a n c n' c' => Lib.run_eql_slice_nil w _ _ a n c n' c' Try.underlying22
  obtain ⟨i0, hi, hz0, hz1, hz2⟩ := info_parts info5
  go_enter Try.func7, Try.ntmps7
  go_wp2_with (at_make; refine wpList_make_full _ rfl _ _ 22 rfl w.heap.size 5 i0 (.int .u8 0) 1 Try.underlying22 hi hz0 hz1 _ _ _ _ 0 rfl rfl rfl rfl (by omega) (by unfold maxLen; omega) (Nat.le_refl _) ?_; intro w1 hown hgrow)
  refine wp_loop_rounds 1 ?_
  rw [rounds_succ]
  go_wp2
  go_ret
  exact ⟨rfl, (Below.refl _ _).grown hgrow (Nat.le_refl _) (by simp)⟩

/-- zzCloneBytes at a slice that holds something. -/
theorem clone7 (b off len cap : Nat) (zs : List Int) (w : World) (hm : len ≤ 1048576) (hl : len ≤ zs.length) (hcell : ∀ i, i < zs.length → w.cell? ⟨b, off + i, none⟩ = some (.int .u8 (zs.getD i 0))) :
    Calls Try.prog 7 #[.slice (some ⟨b, off, none⟩) len cap] w fun e w' => e = .returned (.slice (some ⟨w.heap.size, 0, none⟩) len len) ∧ Below w.heap.size w w' ∧ ∃ ys : List Int, ys.length = len ∧ w'.ownsRow w.heap.size 5 1 (.slice (some ⟨w.heap.size, 0, none⟩) len len) len (ys.map (Value.int .u8)) := by
  have q22 : ∀ (w : World) (a : Option Addr) (n c n' c' : Nat), (binOp .eql 22 (.slice a n c) (.slice none n' c')).run Try.prog w = .ok (.bool a.isNone) w := fun w a n c n' c' => Lib.run_eql_slice_nil w _ _ a n c n' c' Try.underlying22
  obtain ⟨i0, hi, hz0, hz1, hz2⟩ := info_parts info5
  go_enter Try.func7, Try.ntmps7
  go_wp2_with (at_make; refine wpList_make_full _ rfl _ _ 22 rfl w.heap.size 5 i0 (.int .u8 0) 1 Try.underlying22 hi hz0 hz1 _ _ _ _ len rfl rfl rfl rfl (by rw [hz2]; omega) (by unfold maxLen; omega) (Nat.le_refl _) ?_; intro w1 hown hgrow)
  go_loopw [4] (fun i wr => ∃ k : Nat, k ≤ len ∧ i = .int .i64 k ∧ Below w.heap.size w wr ∧ ∃ ys : List Int, ys.length = len ∧ wr.ownsRow w.heap.size 5 1 (.slice (some ⟨w.heap.size, 0, none⟩) len len) len (ys.map (Value.int .u8))) (fun i _ => len - (intOf i).toNat)
  case atStart =>
    refine ⟨0, Nat.zero_le _, rfl, (Below.refl _ _).grown hgrow (Nat.le_refl _) (by simp), List.replicate len 0, by simp, ?_⟩
    simpa [toList_madeCells_one, Value.cells] using hown
  case round =>
    clear hown hgrow
    obtain ⟨k, hk, rfl, hbel, ys, hys, hown⟩ := hrel
    by_cases hlt : k < len
    · have hc0 := hcell k (by omega)
      have hbb : b < w.heap.size := World.block_lt_of_cell? _ _ hc0
      have hc : wr.cell? ⟨b, off + k, none⟩ = some (.int .u8 (zs.getD k 0)) := (hbel.cell (p := ⟨b, off + k, none⟩) hbb).trans hc0
      have hd : wr.cell? ⟨w.heap.size, k, none⟩ = some (.int .u8 (ys.getD k 0)) := by
        rw [hown.cellAt k (by omega)]; simp [hys, hlt, List.getD]
      have hf := hown.frozenAt k
      have R : ∀ u : Int, Below w.heap.size w (wr.setCell ⟨w.heap.size, k, none⟩ (.int .u8 u)) ∧ (wr.setCell ⟨w.heap.size, k, none⟩ (.int .u8 u)).ownsRow w.heap.size 5 1 (.slice (some ⟨w.heap.size, 0, none⟩) len len) len ((ys.set k u).map (Value.int .u8)) := fun u =>
        ⟨hbel.setCell (Nat.le_refl _) _, by rw [List.map_set]; exact (hown.stored k _).1⟩
      have HR : Hid (∀ u : Int, Below w.heap.size w (wr.setCell ⟨w.heap.size, k, none⟩ (.int .u8 u)) ∧ (wr.setCell ⟨w.heap.size, k, none⟩ (.int .u8 u)).ownsRow w.heap.size 5 1 (.slice (some ⟨w.heap.size, 0, none⟩) len len) len ((ys.set k u).map (Value.int .u8))) := R
      clear R hown hbel hcell
      go_wp2
      go_roundw
      case rel => exact ⟨k + 1, by omega, by go_num, (HR.out _).1, ys.set k _, by simp [hys], (HR.out _).2⟩
      case measure => simp [intOf]; omega
    · go_wp2
      go_ret
      exact ⟨rfl, hbel, ys, hys, hown⟩

/-- ZZValueRead, empty. -/
theorem read9_empty (b : Nat) (ao : Option Addr) (cap : Nat) (u : Value) (w : World) (h3 : w.cell? ⟨b, 3, none⟩ = some (.slice ao 0 cap)) (h2 : w.cell? ⟨b, 2, none⟩ = some u) (hf : w.frozen? ⟨b, 2, none⟩ = false) :
    Calls Try.prog 9 #[.pointer (some ⟨b, 0, none⟩)] w fun e w' => e = .returned (.tuple #[]) ∧ ∃ nq st, (st = 1 ∨ st = 4 ∨ st = 9) ∧ w' = (w.setCell ⟨b, 2, none⟩ (.int .i64 st)).drewN nq := by
  go_enter Try.func9, Try.ntmps9
  go_wp2_with fail
  refine (read16_empty b ao cap u _ h3 h2 hf).mono ?_
  rintro e w' ⟨rfl, rfl⟩
  go_wp2
  go_end0
  exact ⟨rfl, 0, 1, Or.inl rfl, rfl⟩

/-- ZZValueRead, not empty. -/
theorem read9_full (b g n cap : Nat) (z : Int) (u : Value) (w : World) (hn : 1 ≤ n) (hm : n ≤ 1048576) (h3 : w.cell? ⟨b, 3, none⟩ = some (.slice (some ⟨g, 0, none⟩) n cap)) (h2 : w.cell? ⟨b, 2, none⟩ = some u) (hf : w.frozen? ⟨b, 2, none⟩ = false)
    (hz : w.cell? ⟨g, n - 1, none⟩ = some (.int .u8 z)) :
    Calls Try.prog 9 #[.pointer (some ⟨b, 0, none⟩)] w fun e w' => e = .returned (.tuple #[]) ∧ ∃ nq st, (st = 1 ∨ st = 4 ∨ st = 9) ∧ w' = (w.setCell ⟨b, 2, none⟩ (.int .i64 st)).drewN nq := by
  go_enter Try.func9, Try.ntmps9
  go_wp2_with fail
  refine (read16_full b g n cap z u _ hn hm h3 h2 hf hz).mono ?_
  rintro e w' ⟨rfl, nq, st, hst, rfl⟩
  go_wp2
  go_end0
  exact ⟨rfl, nq, st, hst, rfl⟩

/-- ZZValueNext. -/
theorem next10 (b : Nat) (st : Int) (w : World) (hc : w.cell? ⟨b, 2, none⟩ = some (.int .i64 st)) (h : st = 1 ∨ st = 4 ∨ st = 9) :
    Calls Try.prog 10 #[.pointer (some ⟨b, 0, none⟩)] w fun e w' => e = .returned (.bool false) ∧ w' = w := by
  go_enter Try.func10, Try.ntmps10
  go_wp2_with fail
  refine (next17 b st _ hc h).mono ?_
  rintro e w' ⟨rfl, rfl⟩
  go_wp2
  go_ret
  exact ⟨rfl, rfl⟩
end Go.Proofs.Qxb6001778a.Scan
