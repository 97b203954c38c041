import Derived.Test.Qxb6600705aRows
import Derived.Test.Qxb6600705aPlain
import Derived.WalkKit
import Derived.WalkSpells
import Derived.WalkLawsBesides
import Derived.Lib.IndexBytes
namespace Go.Proofs.Qxb6600705a.Num
open Go.RowKit Plain

theorem ret_int {k : IntKind} {a b : Int} (h : a = b) : Ending.returned (.int k a) = .returned (.int k b) := by rw [h]
theorem ret_bool {a b : Bool} (h : a = b) : Ending.returned (.bool a) = .returned (.bool b) := by rw [h]
theorem int_eq {k : IntKind} {a b : Int} (h : a = b) : Value.int k a = Value.int k b := by rw [h]

theorem take_snoc (s : ByteArray) (k : Nat) (h : k < s.size) : s.data.toList.take (k + 1) = s.data.toList.take k ++ [s[k]] := by
  rw [List.take_succ_eq_append_getElem (by simpa using h)]; rfl

theorem take_all (s : ByteArray) : s.data.toList.take s.size = s.data.toList := List.take_of_length_le (by rw [← Lib.size_eq]; exact Nat.le_refl _)

/-- number. -/
theorem num17 (s : ByteArray) (w : World) (hs : s.size ≤ maxLen) :
    Calls Try.prog 17 #[.string s] w fun e w' => e = .returned (.int .i64 (wrap64 (val s.data.toList))) ∧ w' = w := by
  unfold maxLen at hs
  go_enter Try.func17, Try.ntmps17
  go_wp2
  go_loop [3, 7] (fun n i => ∃ k : Nat, k ≤ s.size ∧ i = .int .i64 k ∧ n = .int .i64 (wrap64 (val (s.data.toList.take k)))) (fun _ i => s.size - (intOf i).toNat)
  case atStart => exact ⟨0, Nat.zero_le _, rfl, int_eq (by unfold wrap64; rw [List.take_zero, val_nil]; omega)⟩
  case round =>
    obtain ⟨k, hk, rfl, rfl⟩ := hrel
    by_cases hlt : k < s.size
    · go_wp2
      go_round
      case rel => exact ⟨k + 1, by omega, by go_num, int_eq (by rw [take_snoc s k hlt, val_snoc, wrap_step]; rfl)⟩
      case measure => simp [intOf]; omega
    · obtain rfl : k = s.size := by omega
      go_wp2
      go_ret
      exact ⟨ret_int (by rw [take_all]), rfl⟩

/-- ZZnumber. -/
theorem num13 (s : ByteArray) (w : World) (hs : s.size ≤ maxLen) :
    Calls Try.prog 13 #[.string s] w fun e w' => e = .returned (.int .i64 (wrap64 (val s.data.toList))) ∧ w' = w := by
  go_enter Try.func13, Try.ntmps13
  go_wp2_with fail
  refine (num17 s _ hs).mono ?_
  rintro e w' ⟨rfl, rfl⟩
  go_wp2
  go_ret
  exact ⟨rfl, rfl⟩

theorem digs_hit (s : ByteArray) (k : Nat) (h : k < s.size) (d : digs (s.data.toList.take k) = true) (h1 : (48 : Int) ≤ (s[k].toNat : Int)) (h2 : (s[k].toNat : Int) ≤ 57) : digs (s.data.toList.take (k + 1)) = true := by
  rw [take_snoc s k h, digs_append, d, Bool.true_and]
  simp [digs]
  omega

theorem digs_miss (s : ByteArray) (k : Nat) (h : k < s.size) (h1 : (s[k].toNat : Int) < 48 ∨ 57 < (s[k].toNat : Int)) : digs s.data.toList = false := by
  unfold digs
  rw [List.all_eq_false]
  refine ⟨s[k], ?_, ?_⟩
  · exact List.getElem_mem (l := s.data.toList) (n := k) (by rw [← Lib.size_eq]; exact h)
  · simp; omega

/-- zzAllDigits. -/
theorem all12 (s : ByteArray) (w : World) (hs : s.size ≤ maxLen) :
    Calls Try.prog 12 #[.string s] w fun e w' => e = .returned (.bool (digs s.data.toList)) ∧ w' = w := by
  unfold maxLen at hs
  go_enter Try.func12, Try.ntmps12
  go_wp2
  go_loop [3] (fun i => ∃ k : Nat, k ≤ s.size ∧ i = .int .i64 k ∧ digs (s.data.toList.take k) = true) (fun i => s.size - (intOf i).toNat)
  case atStart => exact ⟨0, Nat.zero_le _, rfl, rfl⟩
  case round =>
    obtain ⟨k, hk, rfl, hd⟩ := hrel
    have HD : Hid (digs (s.data.toList.take k) = true) := hd
    clear hd
    by_cases hlt : k < s.size
    · by_cases h1 : (s[k].toNat : Int) < 48
      · go_wp2
        go_ret
        exact ⟨ret_bool (digs_miss s k hlt (Or.inl h1)).symm, rfl⟩
      · by_cases h2 : 57 < (s[k].toNat : Int)
        · go_wp2
          go_ret
          exact ⟨ret_bool (digs_miss s k hlt (Or.inr h2)).symm, rfl⟩
        · go_wp2
          go_round
          case rel => exact ⟨k + 1, by omega, by go_num, digs_hit s k hlt HD.out (by omega) (by omega)⟩
          case measure => simp [intOf]; omega
    · obtain rfl : k = s.size := by omega
      go_wp2
      go_ret
      exact ⟨ret_bool (by rw [← HD.out, take_all]), rfl⟩

/-- The call has answered some bool. -/
def SomeBool (e : Ending) : Prop := ∃ t, e = .returned (.bool t)

theorem bytes11 (s : ByteArray) (w : World) :
    Calls Try.prog 11 #[.string s] w fun e w' => SomeBool e ∧ w' = w := by
  go_enter Try.func11, Try.ntmps11
  go_wp2
  all_goals
    go_ret
    exact ⟨⟨_, rfl⟩, rfl⟩

theorem bytes14 (s t : ByteArray) (w : World) :
    Calls Try.prog 14 #[.string s, .string t] w fun e w' => SomeBool e ∧ w' = w := by
  go_enter Try.func14, Try.ntmps14
  go_wp2
  all_goals
    go_ret
    exact ⟨⟨_, rfl⟩, rfl⟩

theorem bytes10 (s t : ByteArray) (w : World) :
    Calls Try.prog 10 #[.string s, .string t] w fun e w' => SomeBool e ∧ w' = w := by
  go_enter Try.func10, Try.ntmps10
  go_wp2
  all_goals
    go_ret
    exact ⟨⟨_, rfl⟩, rfl⟩

theorem max15 (w : World) : Calls Try.prog 15 #[] w fun e w' => e = .returned (.int .i64 18) ∧ w' = w := by
  go_enter Try.func15, Try.ntmps15
  go_wp2
  go_ret
  exact ⟨rfl, rfl⟩
end Go.Proofs.Qxb6600705a.Num
