import Derived.Test.Qxb6001778aSkip
namespace Go.Proofs.Qxb6001778a.SkipWalk
open Go.RowKit

theorem grown_drewN' {a w : World} (h : Grown a w) (n : Nat) : Grown a (w.drewN n) := h

theorem walk (a0 : ByteArray) (a1 : Int) (a2 : ByteArray) (w0 : a0.size ≤ maxLen) (w2 : a2.size ≤ maxLen) (w : World) :
    Calls Try.prog 4 #[.string a0, .int .i64 a1, .string a2] w fun e w' => e = .returned (.bool true) ∧ Grown w w' := by
  have v0 := w0
  have v2 := w2
  unfold maxLen at w0 w2
  by_cases hC : 1048576 < a0.size + a2.size
  · by_cases hA : 1048576 < a0.size
    · go_enter Try.func4, Try.ntmps4
      go_wp2_with fail
      refine (Skip.bytes11 _ _ _ _ v0 v2).mono ?_
      rintro e w1 ⟨⟨t, rfl⟩, hw⟩
      subst hw
      cases t
      all_goals
        go_wp2
        go_ret
        exact ⟨rfl, Grown.refl _⟩
    · by_cases hB : 1048576 < a2.size
      all_goals
        go_enter Try.func4, Try.ntmps4
        go_wp2_with fail
        refine (Skip.bytes11 _ _ _ _ v0 v2).mono ?_
        rintro e w1 ⟨⟨t, rfl⟩, hw⟩
        subst hw
        cases t
        all_goals
          go_wp2
          go_ret
          exact ⟨rfl, Grown.refl _⟩
  · have hA : ¬ 1048576 < a0.size := by omega
    have hB : ¬ 1048576 < a2.size := by omega
    by_cases hn : a1 < 0
    · go_enter Try.func4, Try.ntmps4
      go_wp2_with fail
      refine (Skip.bytes11 _ _ _ _ v0 v2).mono ?_
      rintro e w1 ⟨⟨t, rfl⟩, hw⟩
      subst hw
      cases t
      all_goals
        go_wp2
        go_ret
        exact ⟨rfl, Grown.refl _⟩
    · obtain ⟨k, rfl⟩ := Int.eq_ofNat_of_zero_le (show 0 ≤ a1 by omega)
      by_cases hk : k ≤ a0.size
      · go_enter Try.func4, Try.ntmps4
        go_wp2_with fail
        refine (Skip.bytes11 _ _ _ _ v0 v2).mono ?_
        rintro e w1 ⟨⟨t, rfl⟩, hw⟩
        subst hw
        cases t
        · go_wp2
          go_ret
          exact ⟨rfl, Grown.refl _⟩
        · go_wp2_with (go_at_call 8; go_in)
          refine (Skip.skip12 _ k a0 a2 _ (by omega) (by omega) hk (by simp) (by simp) (by simp)).mono ?_
          rintro e w2 ⟨rfl, nq, rfl⟩
          have H14 := fun W => Skip.has14 k a0 a2 W (by omega) (by omega) hk
          generalize Skip.pf (a0.data.toList.drop k) a2.data.toList = q at *
          have HH : Hid (∀ W, Calls Try.prog 14 #[.string a0, .int .i64 k, .string a2] W fun e w' => e = .returned (.bool q) ∧ ∃ nq, w' = W.drewN nq) := H14
          clear H14
          cases q
          · go_wp2_with fail
            refine (Skip.pos13 _ k _ (by simp)).mono ?_
            rintro e w3 ⟨rfl, hw⟩
            subst hw
            go_wp2_with fail
            refine (HH.out _).mono ?_
            rintro e w3 ⟨rfl, nr, rfl⟩
            go_wp2
            go_ret
            exact ⟨rfl, grown_drewN' ((Grown.refl _).alloc _ _) _⟩
          · go_wp2_with fail
            refine (Skip.pos13 _ ((k : Int) + a2.size) _ (by simp)).mono ?_
            rintro e w3 ⟨rfl, hw⟩
            subst hw
            go_wp2_with fail
            refine (HH.out _).mono ?_
            rintro e w3 ⟨rfl, nr, rfl⟩
            go_wp2
            go_ret
            exact ⟨rfl, grown_drewN' ((Grown.refl _).alloc _ _) _⟩
      · go_enter Try.func4, Try.ntmps4
        go_wp2_with fail
        refine (Skip.bytes11 _ _ _ _ v0 v2).mono ?_
        rintro e w1 ⟨⟨t, rfl⟩, hw⟩
        subst hw
        cases t
        all_goals
          go_wp2
          go_ret
          exact ⟨rfl, Grown.refl _⟩
end Go.Proofs.Qxb6001778a.SkipWalk
