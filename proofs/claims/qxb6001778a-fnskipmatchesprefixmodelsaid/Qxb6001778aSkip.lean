import Derived.Test.Qxb6001778aRows
import Derived.WalkKit
import Derived.WalkSpells
import Derived.WalkLawsBesides
import Derived.Deep.QuietTactic
import Derived.BigQuiet
import Derived.Lib.IndexBytes
namespace Go.Proofs.Qxb6001778a.Skip
open Go.RowKit

/-- Do the bytes of 'd' begin with 'p'? -/
def pf (d p : List UInt8) : Bool := d.take p.length == p

/-- zzBytes_FnSkipMatchesPrefixModel: it answers some bool and leaves the world as it was. -/
theorem bytes11 (a0 : ByteArray) (a1 : Int) (a2 : ByteArray) (w : World) (h0 : a0.size ≤ maxLen) (h2 : a2.size ≤ maxLen) :
    Calls Try.prog 11 #[.string a0, .int .i64 a1, .string a2] w fun e w' => (∃ b, e = .returned (.bool b)) ∧ w' = w := by
  unfold maxLen at h0 h2
  go_enter Try.func11, Try.ntmps11
  go_wp2
  all_goals
    go_ret
    exact ⟨⟨_, rfl⟩, rfl⟩

theorem ret_bool {a b : Bool} (h : a = b) : Ending.returned (.bool a) = .returned (.bool b) := by rw [h]

theorem pf_hit (s p : ByteArray) : ((s.extract 0 p.size).toList == p.toList) = pf s.data.toList p.data.toList := by
  rw [Lib.extract_toList, Lib.toList_data, pf, Lib.size_eq p]
  simp

theorem pf_short (d p : List UInt8) (h : d.length < p.length) : pf d p = false := by
  unfold pf
  rw [beq_eq_false_iff_ne]
  intro e
  have := congrArg List.length e
  simp at this
  omega

set_option linter.unusedVariables false in
theorem has20 (s p : ByteArray) (w : World) (h0 : s.size ≤ maxLen) (h2 : p.size ≤ maxLen) :
    Calls Try.prog 20 #[.string s, .string p] w fun e w' => e = .returned (.bool (pf s.data.toList p.data.toList)) ∧ w' = w := by
  unfold maxLen at h0 h2
  by_cases hle : p.size ≤ s.size
  · go_enter Try.func20, Try.ntmps20
    go_wp2
    go_ret
    exact ⟨ret_bool (pf_hit s p), rfl⟩
  · go_enter Try.func20, Try.ntmps20
    go_wp2
    go_ret
    exact ⟨ret_bool (pf_short _ _ (by rw [← Lib.size_eq, ← Lib.size_eq]; omega)).symm, rfl⟩

set_option linter.unusedVariables false in
theorem has19 (s p : ByteArray) (w : World) (h0 : s.size ≤ maxLen) (h2 : p.size ≤ maxLen) :
    Calls Try.prog 19 #[.string s, .string p] w fun e w' => e = .returned (.bool (pf s.data.toList p.data.toList)) ∧ w' = w := by
  go_enter Try.func19, Try.ntmps19
  go_wp2_with fail
  refine (has20 s p _ h0 h2).mono ?_
  rintro e w' ⟨rfl, rfl⟩
  go_wp2
  go_ret
  exact ⟨rfl, rfl⟩

/-- '(*plainScanner).skip' on a scanner at 'k' of 't'. -/
theorem skip18 (b k : Nat) (t p : ByteArray) (w : World) (h0 : t.size ≤ 1048576) (h2 : p.size ≤ 1048576) (hk : k ≤ t.size) (hc0 : w.cell? ⟨b, 0, none⟩ = some (.string t)) (hc1 : w.cell? ⟨b, 1, none⟩ = some (.int .i64 k)) (hf : w.frozen? ⟨b, 1, none⟩ = false) :
    Calls Try.prog 18 #[.pointer (some ⟨b, 0, none⟩), .string p] w fun e w' => e = .returned (.bool (pf (t.data.toList.drop k) p.data.toList)) ∧ ∃ nq, w' = (if pf (t.data.toList.drop k) p.data.toList = true then w.setCell ⟨b, 1, none⟩ (.int .i64 ((k : Int) + p.size)) else w).drewN nq := by
  have HX : Hid (pf (t.extract k t.size).data.toList p.data.toList = pf (t.data.toList.drop k) p.data.toList) := by show _ = _; rw [Lib.extract_to_end t k]
  generalize pf (t.data.toList.drop k) p.data.toList = q at *
  cases q
  · go_enter Try.func18, Try.ntmps18
    go_wp2
    go_quiet ((go_at_call 19; exact Calls.quiet_of_same (has19 _ _ _ (by simp [maxLen]; omega) (by simp [maxLen]; omega))))
    rw [HX.out]
    go_wp2
    go_ret
    exact ⟨rfl, nq, rfl⟩
  · go_enter Try.func18, Try.ntmps18
    go_wp2
    go_quiet ((go_at_call 19; exact Calls.quiet_of_same (has19 _ _ _ (by simp [maxLen]; omega) (by simp [maxLen]; omega))))
    rw [HX.out]
    go_wp2
    go_ret
    exact ⟨rfl, nq, rfl⟩

/-- ZZSkip. -/
theorem skip12 (b k : Nat) (t p : ByteArray) (w : World) (h0 : t.size ≤ 1048576) (h2 : p.size ≤ 1048576) (hk : k ≤ t.size) (hc0 : w.cell? ⟨b, 0, none⟩ = some (.string t)) (hc1 : w.cell? ⟨b, 1, none⟩ = some (.int .i64 k)) (hf : w.frozen? ⟨b, 1, none⟩ = false) :
    Calls Try.prog 12 #[.pointer (some ⟨b, 0, none⟩), .string p] w fun e w' => e = .returned (.bool (pf (t.data.toList.drop k) p.data.toList)) ∧ ∃ nq, w' = (if pf (t.data.toList.drop k) p.data.toList = true then w.setCell ⟨b, 1, none⟩ (.int .i64 ((k : Int) + p.size)) else w).drewN nq := by
  have H := skip18 b k t p w h0 h2 hk hc0 hc1 hf
  generalize pf (t.data.toList.drop k) p.data.toList = q at *
  have HH : Hid (Calls Try.prog 18 #[.pointer (some ⟨b, 0, none⟩), .string p] w fun e w' => e = .returned (.bool q) ∧ ∃ nq, w' = (if q = true then w.setCell ⟨b, 1, none⟩ (.int .i64 ((k : Int) + p.size)) else w).drewN nq) := H
  clear H hc0 hc1 hf
  cases q
  all_goals
    go_enter Try.func12, Try.ntmps12
    go_wp2_with fail
    refine HH.out.mono ?_
    rintro e w' ⟨rfl, nq, rfl⟩
    go_wp2
    go_ret
    exact ⟨rfl, nq, rfl⟩

/-- ZZPos. -/
theorem pos13 (b : Nat) (n : Int) (w : World) (hc1 : w.cell? ⟨b, 1, none⟩ = some (.int .i64 n)) :
    Calls Try.prog 13 #[.pointer (some ⟨b, 0, none⟩)] w fun e w' => e = .returned (.int .i64 n) ∧ w' = w := by
  go_enter Try.func13, Try.ntmps13
  go_wp2
  go_ret
  exact ⟨rfl, rfl⟩

theorem take_step (d p : List UInt8) (n : Nat) (hn : n < p.length) (hd : n < d.length) (h : d.take n = p.take n) (e : d[n] = p[n]) : d.take (n + 1) = p.take (n + 1) := by
  rw [List.take_succ_eq_append_getElem hd, List.take_succ_eq_append_getElem hn, h, e]

theorem pf_miss (d p : List UInt8) (n : Nat) (hn : n < p.length) (hd : n < d.length) (e : d[n] ≠ p[n]) : pf d p = false := by
  unfold pf
  rw [beq_eq_false_iff_ne]
  intro h
  apply e
  have h1 : (d.take p.length)[n]? = p[n]? := by rw [h]
  rw [List.getElem?_take, if_pos hn, List.getElem?_eq_getElem hd, List.getElem?_eq_getElem hn] at h1
  exact Option.some.inj h1

theorem drop_at (t : ByteArray) (k n : Nat) (h : k + n < t.size) (hd : n < (t.data.toList.drop k).length) : (t.data.toList.drop k)[n] = t[k + n] := by
  rw [List.getElem_drop]; rfl

theorem at_miss (t p : ByteArray) (k n : Nat) (h1 : k + n < t.size) (h2 : n < p.size) (e : ((t[k + n].toNat : Int) != (p[n].toNat : Int)) = true) : pf (t.data.toList.drop k) p.data.toList = false := by
  have hd : n < (t.data.toList.drop k).length := by rw [List.length_drop, ← Lib.size_eq]; omega
  have hp : n < p.data.toList.length := by rw [← Lib.size_eq]; omega
  refine pf_miss _ _ n hp hd ?_
  rw [drop_at t k n h1 hd]
  intro h
  have h' : t[k + n] = p[n] := h
  rw [h'] at e
  simp at e

theorem at_hit (t p : ByteArray) (k n : Nat) (h1 : k + n < t.size) (h2 : n < p.size) (e : ((t[k + n].toNat : Int) != (p[n].toNat : Int)) = false) (h : (t.data.toList.drop k).take n = p.data.toList.take n) : (t.data.toList.drop k).take (n + 1) = p.data.toList.take (n + 1) := by
  have hd : n < (t.data.toList.drop k).length := by rw [List.length_drop, ← Lib.size_eq]; omega
  have hp : n < p.data.toList.length := by rw [← Lib.size_eq]; omega
  refine take_step _ _ n hp hd h ?_
  rw [drop_at t k n h1 hd]
  show t[k + n] = p[n]
  apply UInt8.toNat_inj.1
  simp only [bne_eq_false_iff_eq] at e
  omega

theorem pf_all (t p : ByteArray) (k : Nat) (h : (t.data.toList.drop k).take p.size = p.data.toList.take p.size) : pf (t.data.toList.drop k) p.data.toList = true := by
  unfold pf
  rw [← Lib.size_eq, h, List.take_of_length_le (by rw [← Lib.size_eq]; exact Nat.le_refl _)]
  simp

/-- zzHasPrefixAt. -/
theorem has14 (k : Nat) (t p : ByteArray) (w : World) (h0 : t.size ≤ 1048576) (h2 : p.size ≤ 1048576) (hk : k ≤ t.size) :
    Calls Try.prog 14 #[.string t, .int .i64 k, .string p] w fun e w' => e = .returned (.bool (pf (t.data.toList.drop k) p.data.toList)) ∧ ∃ nq, w' = w.drewN nq := by
  by_cases hle : p.size ≤ t.size - k
  · have hdd : decide ((t.size : Int) - (k : Int) < (p.size : Int)) = false := by simp; omega
    go_enter Try.func14, Try.ntmps14
    go_wp2
    go_loopw [7] (fun i wr => ∃ n : Nat, n ≤ p.size ∧ i = .int .i64 n ∧ (t.data.toList.drop k).take n = p.data.toList.take n ∧ ∃ nq, wr = w.drewN nq) (fun i _ => p.size - (intOf i).toNat)
    case atStart => exact ⟨0, Nat.zero_le _, rfl, by simp, 0, rfl⟩
    case round =>
      obtain ⟨n, hn, rfl, hpre, nq, rfl⟩ := hrel
      have HP : Hid ((t.data.toList.drop k).take n = p.data.toList.take n) := hpre
      clear hpre
      by_cases hlt : n < p.size
      · have hb1 : 0 ≤ (k : Int) + (n : Int) ∧ (k : Int) + (n : Int) < (t.size : Int) := by omega
        have hb2 : 0 ≤ (n : Int) ∧ (n : Int) < (p.size : Int) := by omega
        have ht : k + n < t.size := by omega
        go_wp2
        go_region
        go_wp2
        · go_ret
          exact ⟨ret_bool (at_miss t p k n ht hlt (by assumption)).symm, nq + 1, rfl⟩
        · go_roundw
          case rel => exact ⟨n + 1, by omega, by go_num, at_hit t p k n ht hlt (by assumption) HP.out, nq + 1, rfl⟩
          case measure => simp [intOf]; omega
      · obtain rfl : n = p.size := by omega
        go_wp2
        go_ret
        exact ⟨ret_bool (pf_all t p k HP.out).symm, nq, rfl⟩
  · go_enter Try.func14, Try.ntmps14
    go_wp2
    go_ret
    exact ⟨ret_bool (pf_short _ _ (by rw [List.length_drop, ← Lib.size_eq, ← Lib.size_eq]; omega)).symm, 0, rfl⟩
end Go.Proofs.Qxb6001778a.Skip
