import Derived.Test.Qxb6600705aNum
namespace Go.Proofs.Qxb6600705a.Place
open Go.RowKit Plain Num

theorem drop_cons (s : ByteArray) (m : Nat) (h : m < s.size) : s.data.toList.drop m = s[m] :: s.data.toList.drop (m + 1) := by
  have h' : m < s.data.toList.length := by rw [← Lib.size_eq]; exact h
  rw [List.drop_eq_getElem_cons h']; rfl

theorem place_n (s : ByteArray) (m : Nat) (h : m < s.size) :
    wrap64 (wrap64 (val (s.data.toList.drop (m + 1))) + wrap64 (((s[m].toNat : Int) - 48) % 256 * wrap64 (10 ^ (s.size - (m + 1))))) = wrap64 (val (s.data.toList.drop m)) := by
  rw [drop_cons s m h, val_cons, wrap_mul, wrap_idem, List.length_drop, ← Lib.size_eq]; rfl

theorem place_p (n m : Nat) (h : m < n) : wrap64 (wrap64 (10 ^ (n - (m + 1))) * 10) = wrap64 (10 ^ (n - m)) := by
  rw [wrap_ten, show n - m = (n - (m + 1)) + 1 by omega, Int.pow_succ]

theorem walk (s : ByteArray) (w : World) (hs : s.size ≤ maxLen) :
    Calls Try.prog 5 #[.string s] w fun e w' => e = .returned (.bool true) ∧ w' = w := by
  have hv := hs
  unfold maxLen at hs
  by_cases hbig : 1048576 < s.size
  · go_enter Try.func5, Try.ntmps5
    go_wp2_with fail
    refine (bytes11 _ _).mono ?_
    rintro e w1 ⟨⟨t, rfl⟩, hw⟩
    subst hw
    cases t
    all_goals
      go_wp2
      go_ret
      exact ⟨rfl, rfl⟩
  · have hdd : decide (1048576 < (s.size : Int)) = false := by simp; omega
    go_enter Try.func5, Try.ntmps5
    go_wp2_with fail
    refine (bytes11 _ _).mono ?_
    rintro e w1 ⟨⟨t, rfl⟩, hw⟩
    subst hw
    cases t
    · go_wp2
      go_ret
      exact ⟨rfl, rfl⟩
    go_wp2_with fail
    refine (all12 _ _ hv).mono ?_
    rintro e w2 ⟨rfl, hw⟩
    subst hw
    generalize digs s.data.toList = q
    cases q
    · go_wp2
      go_ret
      exact ⟨rfl, rfl⟩
    go_wp2
    go_loop [3, 4, 5] (fun n p i => ∃ m : Nat, m ≤ s.size ∧ i = .int .i64 ((m : Int) - 1) ∧ n = .int .i64 (wrap64 (val (s.data.toList.drop m))) ∧ p = .int .i64 (wrap64 (10 ^ (s.size - m)))) (fun _ _ i => (intOf i + 1).toNat)
    case atStart =>
      refine ⟨s.size, Nat.le_refl _, rfl, int_eq ?_, int_eq ?_⟩
      · rw [List.drop_of_length_le (by rw [← Lib.size_eq]; exact Nat.le_refl _), val_nil]; exact (wrap_of 0 (by omega) (by omega)).symm
      · rw [Nat.sub_self, Int.pow_zero]; exact (wrap_of 1 (by omega) (by omega)).symm
    case round =>
      obtain ⟨m, hm, rfl, rfl, rfl⟩ := hrel
      cases m with
      | zero =>
        go_wp2_with fail
        refine (num13 _ _ hv).mono ?_
        rintro e w3 ⟨rfl, hw⟩
        subst hw
        go_wp2
        go_ret
        exact ⟨ret_bool (by simp), rfl⟩
      | succ m =>
        rw [show ((m + 1 : Nat) : Int) - 1 = (m : Int) by omega]
        have hlt : m < s.size := by omega
        have HN : Hid (wrap64 (wrap64 (val (s.data.toList.drop (m + 1))) + wrap64 (((s[m].toNat : Int) - 48) % 256 * wrap64 (10 ^ (s.size - (m + 1))))) = wrap64 (val (s.data.toList.drop m))) := place_n s m hlt
        have HP : Hid (wrap64 (wrap64 (10 ^ (s.size - (m + 1))) * 10) = wrap64 (10 ^ (s.size - m))) := place_p s.size m hlt
        go_wp2
        go_round
        case rel => exact ⟨m, by omega, rfl, int_eq HN.out, int_eq HP.out⟩
        case measure => simp [intOf]
end Go.Proofs.Qxb6600705a.Place
