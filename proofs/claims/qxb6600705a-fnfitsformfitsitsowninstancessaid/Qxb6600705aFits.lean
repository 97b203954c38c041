import Derived.Test.Qxb6600705aNum
import Derived.Test.Qxb6600705aFitsPlain
namespace Go.Proofs.Qxb6600705a.Fits
open Go.RowKit Num FitsPlain

theorem step_hit (s g : ByteArray) (k : Nat) (hs : k < s.size) (hg : k < g.size) (h : f1 (s[k].toNat : Int) (g[k].toNat : Int) = true) (r : fitsL (s.data.toList.take k) (g.data.toList.take k) = true) : fitsL (s.data.toList.take (k + 1)) (g.data.toList.take (k + 1)) = true := by
  rw [take_snoc s k hs, take_snoc g k hg, fitsL_snoc _ _ _ _ (by rw [List.length_take, List.length_take, ← Lib.size_eq, ← Lib.size_eq]; omega), r, h]; rfl

theorem step_miss (s g : ByteArray) (k : Nat) (hs : k < s.size) (hg : k < g.size) (h : f1 (s[k].toNat : Int) (g[k].toNat : Int) = false) : fitsL s.data.toList g.data.toList = false :=
  fitsL_miss _ _ k (by rw [← Lib.size_eq]; exact hs) (by rw [← Lib.size_eq]; exact hg) h

theorem a48 {s g : Int} (h : (g == 48) = true) (h2 : s < 48 ∨ 57 < s) : f1 s g = false := by
  have e : g = 48 := by simpa using h
  unfold f1; rw [if_pos e]; simp; omega
theorem a48' {s g : Int} (h : (g == 48) = true) (h2 : s < 48) : f1 s g = false := a48 h (Or.inl h2)
theorem b48 {s g : Int} (h : (g == 48) = true) (h2 : 48 ≤ s ∧ s ≤ 57) : f1 s g = true := by
  have e : g = 48 := by simpa using h
  unfold f1; rw [if_pos e]; simp; omega
theorem a84 {s g : Int} (h : (g == 84) = true) (h2 : (s != 84) = true ∧ (s != 116) = true) : f1 s g = false := by
  have e : g = 84 := by simpa using h
  simp only [bne_iff_ne] at h2
  unfold f1; rw [if_neg (by omega), if_pos e]; simp; omega
theorem b84 {s g : Int} (h : (g == 84) = true) (h2 : s = 84) : f1 s g = true := by
  have e : g = 84 := by simpa using h
  unfold f1; rw [if_neg (by omega), if_pos e]; simp; omega
theorem b84' {s g : Int} (h : (g == 84) = true) (h2 : (s != 84) = false ∨ (s != 116) = false) : f1 s g = true := by
  have e : g = 84 := by simpa using h
  simp only [bne_eq_false_iff_eq] at h2
  unfold f1; rw [if_neg (by omega), if_pos e]; simp; omega
theorem a43 {s g : Int} (h : (g == 43) = true) (h2 : (s != 43) = true ∧ (s != 45) = true) : f1 s g = false := by
  have e : g = 43 := by simpa using h
  simp only [bne_iff_ne] at h2
  unfold f1; rw [if_neg (by omega), if_neg (by omega), if_pos e]; simp; omega
theorem b43 {s g : Int} (h : (g == 43) = true) (h2 : s = 43) : f1 s g = true := by
  have e : g = 43 := by simpa using h
  unfold f1; rw [if_neg (by omega), if_neg (by omega), if_pos e]; simp; omega
theorem b43' {s g : Int} (h : (g == 43) = true) (h2 : (s != 43) = false ∨ (s != 45) = false) : f1 s g = true := by
  have e : g = 43 := by simpa using h
  simp only [bne_eq_false_iff_eq] at h2
  unfold f1; rw [if_neg (by omega), if_neg (by omega), if_pos e]; simp; omega
theorem a0 {s g : Int} (h1 : (g == 48) = false) (h2 : (g == 84) = false) (h3 : (g == 43) = false) (h : (s != g) = true) : f1 s g = false := by
  simp only [beq_eq_false_iff_ne, ne_eq, bne_iff_ne] at *
  unfold f1; rw [if_neg h1, if_neg h2, if_neg h3]; simp [h]
theorem b0 {s g : Int} (h1 : (g == 48) = false) (h2 : (g == 84) = false) (h3 : (g == 43) = false) (h : (s != g) = false) : f1 s g = true := by
  simp only [beq_eq_false_iff_ne, ne_eq, bne_eq_false_iff_eq] at *
  unfold f1; rw [if_neg h1, if_neg h2, if_neg h3]; simp [h]

set_option linter.unusedVariables false in
theorem fits16 (s g : ByteArray) (w : World) (hs : s.size ≤ maxLen) (hg : g.size ≤ maxLen) :
    Calls Try.prog 16 #[.string s, .string g] w fun e w' => e = .returned (.bool (fitsL s.data.toList g.data.toList)) ∧ w' = w := by
  unfold maxLen at hs hg
  by_cases hlen : s.size = g.size
  · have hne : ((s.size : Int) != (g.size : Int)) = false := by simp [hlen]
    have HL : Hid (s.size = g.size) := hlen
    clear hlen
    go_enter Try.func16, Try.ntmps16
    go_wp2
    go_loop [14] (fun i => ∃ k : Nat, k ≤ g.size ∧ i = .int .i64 k ∧ fitsL (s.data.toList.take k) (g.data.toList.take k) = true) (fun i => g.size - (intOf i).toNat)
    case atStart => exact ⟨0, Nat.zero_le _, rfl, rfl⟩
    case round =>
      obtain ⟨k, hk, rfl, hr⟩ := hrel
      have HR : Hid (fitsL (s.data.toList.take k) (g.data.toList.take k) = true) := hr
      clear hr
      by_cases hlt : k < g.size
      · have hlt2 : k < s.size := by rw [HL.out]; exact hlt
        go_wp2
        · go_ret
          exact ⟨ret_bool (step_miss s g k hlt2 hlt (a48 (by assumption) (by assumption))).symm, rfl⟩
        · go_round
          case rel => exact ⟨k + 1, by omega, by go_num, step_hit s g k hlt2 hlt (b48 (by assumption) (by assumption)) HR.out⟩
          case measure => simp [intOf]; omega
        · go_ret
          exact ⟨ret_bool (step_miss s g k hlt2 hlt (a48' (by assumption) (by assumption))).symm, rfl⟩
        · go_round
          case rel => exact ⟨k + 1, by omega, by go_num, step_hit s g k hlt2 hlt (b84 (by assumption) (by assumption)) HR.out⟩
          case measure => simp [intOf]; omega
        · go_ret
          exact ⟨ret_bool (step_miss s g k hlt2 hlt (a84 (by assumption) (by assumption))).symm, rfl⟩
        · go_round
          case rel => exact ⟨k + 1, by omega, by go_num, step_hit s g k hlt2 hlt (b84' (by assumption) (by assumption)) HR.out⟩
          case measure => simp [intOf]; omega
        · go_round
          case rel => exact ⟨k + 1, by omega, by go_num, step_hit s g k hlt2 hlt (b43 (by assumption) (by assumption)) HR.out⟩
          case measure => simp [intOf]; omega
        · go_ret
          exact ⟨ret_bool (step_miss s g k hlt2 hlt (a43 (by assumption) (by assumption))).symm, rfl⟩
        · go_round
          case rel => exact ⟨k + 1, by omega, by go_num, step_hit s g k hlt2 hlt (b43' (by assumption) (by assumption)) HR.out⟩
          case measure => simp [intOf]; omega
        · go_ret
          exact ⟨ret_bool (step_miss s g k hlt2 hlt (a0 (by assumption) (by assumption) (by assumption) (by assumption))).symm, rfl⟩
        · go_round
          case rel => exact ⟨k + 1, by omega, by go_num, step_hit s g k hlt2 hlt (b0 (by assumption) (by assumption) (by assumption) (by assumption)) HR.out⟩
          case measure => simp [intOf]; omega
      · obtain rfl : k = g.size := by omega
        go_wp2
        go_ret
        refine ⟨ret_bool ?_, rfl⟩
        rw [← HR.out, take_all, ← HL.out, take_all]
  · go_enter Try.func16, Try.ntmps16
    go_wp2
    go_ret
    exact ⟨ret_bool (fitsL_len _ _ (by rw [← Lib.size_eq, ← Lib.size_eq]; exact hlen)).symm, rfl⟩

/-- ZZfits. -/
theorem fits9 (s g : ByteArray) (q : Bool) (w : World) (hs : s.size ≤ maxLen) (hg : g.size ≤ maxLen) (hq : fitsL s.data.toList g.data.toList = q) :
    Calls Try.prog 9 #[.string s, .string g] w fun e w' => e = .returned (.bool q) ∧ w' = w := by
  subst hq
  go_enter Try.func9, Try.ntmps9
  go_wp2_with fail
  refine (fits16 s g _ hs hg).mono ?_
  rintro e w' ⟨rfl, rfl⟩
  go_wp2
  go_ret
  exact ⟨rfl, rfl⟩
end Go.Proofs.Qxb6600705a.Fits
