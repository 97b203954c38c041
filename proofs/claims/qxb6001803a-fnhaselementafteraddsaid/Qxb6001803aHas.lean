import Derived.Test.Qxb6001803aRows
import Derived.WalkKit
import Derived.WalkSpells
import Derived.WalkLawsBesides
namespace Go.Proofs.Qxb6001803a.Has
open Go.RowKit

/-- Is x among ss? -/
def hasB (ss : List ByteArray) (x : ByteArray) : Bool := ss.any fun s => s.toList == x.toList

theorem ret_bool {a b : Bool} (h : a = b) : Ending.returned (.bool a) = .returned (.bool b) := by rw [h]

theorem take_snoc (ss : List ByteArray) (k : Nat) (h : k < ss.length) : ss.take (k + 1) = ss.take k ++ [ss.getD k ByteArray.empty] := by
  rw [List.take_succ_eq_append_getElem h]; simp [List.getD, h]

theorem hasB_snoc (ss : List ByteArray) (s x : ByteArray) : hasB (ss ++ [s]) x = (hasB ss x || (s.toList == x.toList)) := by
  simp [hasB]

theorem hasB_hit (ss : List ByteArray) (x : ByteArray) (k : Nat) (h : k < ss.length) (e : ((ss.getD k ByteArray.empty).toList == x.toList) = true) : hasB ss x = true := by
  have hm : ss.getD k ByteArray.empty ∈ ss := by simp [List.getD, h]
  exact List.any_eq_true.2 ⟨_, hm, e⟩

theorem hasB_miss (ss : List ByteArray) (x : ByteArray) (k : Nat) (h : k < ss.length) (e : ((ss.getD k ByteArray.empty).toList == x.toList) = false) (r : hasB (ss.take k) x = false) : hasB (ss.take (k + 1)) x = false := by
  rw [take_snoc ss k h, hasB_snoc, r, e]; rfl

/-- hasElement on the value that ZZHasElement builds. -/
theorem has12 (b n cap : Nat) (ss : List ByteArray) (x : ByteArray) (w : World) (hn : n ≤ 1048576) (hl : ss.length = n) (hb : b < w.heap.size) (hc : ∀ i, i < n → w.cell? ⟨b, i, none⟩ = some (.string (ss.getD i ByteArray.empty))) :
    Calls Try.prog 12 #[.agg #[.int .i64 5, .string ⟨#[]⟩, .bool false, .string ⟨#[]⟩, .int .i64 0, .bool false, .slice (some ⟨b, 0, none⟩) n cap, .map none, .slice none 0 0], .string x] w fun e w' => e = .returned (.bool (hasB ss x)) ∧ w.grownBy w' none := by
  go_enter Try.func12, Try.ntmps12
  go_wp2
  go_loop [10] (fun i => ∃ k : Nat, k ≤ n ∧ i = .int .i64 k ∧ hasB (ss.take k) x = false) (fun i => n - (intOf i).toNat)
  case atStart => exact ⟨0, Nat.zero_le _, rfl, rfl⟩
  case round =>
    obtain ⟨k, hk, rfl, hr⟩ := hrel
    have HR : Hid (hasB (ss.take k) x = false) := hr
    clear hr
    by_cases hlt : k < n
    · obtain ⟨s, hs⟩ : ∃ s, s = ss.getD k ByteArray.empty := ⟨_, rfl⟩
      have hck : w.cell? ⟨b, k, none⟩ = some (.string s) := by rw [hs]; exact hc k hlt
      have HS : Hid (s = ss.getD k ByteArray.empty) := hs
      clear hs hc
      go_wp2
      · go_ret
        exact ⟨ret_bool (hasB_hit ss x k (by omega) (by rw [← HS.out]; assumption)).symm, World.grownBy_alloc _ _ _⟩
      · go_round
        case rel => exact ⟨k + 1, by omega, by go_num, hasB_miss ss x k (by omega) (by rw [← HS.out]; assumption) HR.out⟩
        case measure => simp [intOf]; omega
    · obtain rfl : k = n := by omega
      clear hc
      go_wp2
      go_ret
      exact ⟨ret_bool (by rw [← HR.out, List.take_of_length_le (by omega)]), World.grownBy_alloc _ _ _⟩

theorem has12_zero (ao : Option Addr) (cap : Nat) (x : ByteArray) (w : World) :
    Calls Try.prog 12 #[.agg #[.int .i64 5, .string ⟨#[]⟩, .bool false, .string ⟨#[]⟩, .int .i64 0, .bool false, .slice ao 0 cap, .map none, .slice none 0 0], .string x] w fun e w' => e = .returned (.bool false) ∧ w.grownBy w' none := by
  go_enter Try.func12, Try.ntmps12
  go_wp2
  refine wp_loop_rounds 1 ?_
  rw [rounds_succ]
  go_wp2
  go_ret
  exact ⟨rfl, World.grownBy_alloc _ _ _⟩

/-- ZZHasElement. -/
theorem has9 (b n cap : Nat) (ss : List ByteArray) (x : ByteArray) (w : World) (hn : n ≤ 1048576) (hl : ss.length = n) (hb : b < w.heap.size) (hc : ∀ i, i < n → w.cell? ⟨b, i, none⟩ = some (.string (ss.getD i ByteArray.empty))) :
    Calls Try.prog 9 #[.slice (some ⟨b, 0, none⟩) n cap, .string x] w fun e w' => e = .returned (.bool (hasB ss x)) ∧ w.grownBy w' none := by
  go_enter Try.func9, Try.ntmps9
  go_wp2_with fail
  refine (has12 b n cap ss x _ hn hl hb hc).mono ?_
  rintro e w' ⟨rfl, hg⟩
  go_wp2
  go_ret
  exact ⟨rfl, hg⟩

theorem has9_zero (ao : Option Addr) (cap : Nat) (x : ByteArray) (w : World) :
    Calls Try.prog 9 #[.slice ao 0 cap, .string x] w fun e w' => e = .returned (.bool false) ∧ w.grownBy w' none := by
  go_enter Try.func9, Try.ntmps9
  go_wp2_with fail
  refine (has12_zero ao cap x _).mono ?_
  rintro e w' ⟨rfl, hg⟩
  go_wp2
  go_ret
  exact ⟨rfl, hg⟩
end Go.Proofs.Qxb6001803a.Has
