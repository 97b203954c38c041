import Derived.Test.Qxb6001803aHas
import Derived.Test.Qxb6001803aSet
namespace Go.Proofs.Qxb6001803a.AddWalk
open Go.RowKit Has Set

theorem cells_of_own {w : World} {base g n cap : Nat} {ss : List ByteArray} (h : w.ownsRow base 9 1 (.slice (some ⟨g, 0, none⟩) n cap) n (ss.map Value.string)) (hl : ss.length = n) :
    ∀ i, i < n → w.cell? ⟨g, i, none⟩ = some (.string (ss.getD i ByteArray.empty)) := by
  intro i hi
  rw [h.cellAt i (by omega)]
  simp [List.getD, show i < ss.length by omega]

theorem lt_of_own {w : World} {base g n cap : Nat} {xs : List Value} (h : w.ownsRow base 9 1 (.slice (some ⟨g, 0, none⟩) n cap) n xs) : g < w.heap.size := (h.lt g rfl).2

/-- ZZHasElement on a row of the call's own. -/
theorem has_own {w : World} {base g n cap : Nat} {ss : List ByteArray} (x : ByteArray) (q : Bool) (h : w.ownsRow base 9 1 (.slice (some ⟨g, 0, none⟩) n cap) n (ss.map Value.string)) (hl : ss.length = n) (hn : n ≤ 1048576) (hq : hasB ss x = q) :
    Calls Try.prog 9 #[.slice (some ⟨g, 0, none⟩) n cap, .string x] w fun e w' => e = .returned (.bool q) ∧ w.grownBy w' none := by
  subst hq
  exact has9 g n cap ss x w hn hl (lt_of_own h) (cells_of_own h hl)

theorem keep {w w' : World} {base g n cap : Nat} {xs : List Value} (h : w.ownsRow base 9 1 (.slice (some ⟨g, 0, none⟩) n cap) n xs) (hg : w.grownBy w' none) : w'.ownsRow base 9 1 (.slice (some ⟨g, 0, none⟩) n cap) n xs :=
  h.kept hg (Or.inr (by simp [Value.ownBlock]))

theorem put {w : World} {base g n cap j : Nat} {ss : List ByteArray} (h : w.ownsRow base 9 1 (.slice (some ⟨g, 0, none⟩) n cap) n (ss.map Value.string)) (s : ByteArray) : (w.setCell ⟨g, j, none⟩ (.string s)).ownsRow base 9 1 (.slice (some ⟨g, 0, none⟩) n cap) n ((ss.set j s).map Value.string) := by
  rw [List.map_set]; exact (h.stored j _).1

theorem clone8_z (ao : Option Addr) (cap : Nat) (w : World) (h : ao = none → cap = 0) :
    Calls Try.prog 8 #[.slice ao 0 cap] w fun e w' => ∃ ao', e = .returned (.slice ao' 0 0) ∧ Below w.heap.size w w' := by
  cases ao with
  | none =>
    obtain rfl := h rfl
    refine (clone8_nil w).mono ?_
    rintro e w' ⟨rfl, rfl⟩
    exact ⟨_, rfl, Below.refl _ _⟩
  | some x =>
    refine (clone8_zero x cap w).mono ?_
    rintro e w' ⟨rfl, hb, _⟩
    exact ⟨_, rfl, hb⟩

theorem walk_zero (ao : Option Addr) (cap : Nat) (x y : ByteArray) (w : World) (h : ao = none → cap = 0) (hx : x.size ≤ maxLen) (hy : y.size ≤ maxLen) :
    Calls Try.prog 5 #[.slice ao 0 cap, .string x, .string y] w fun e w' => e = .returned (.bool true) ∧ Below w.heap.size w w' := by
  obtain ⟨i0, hi, hz0, hz1, hz2⟩ := info_parts info9
  go_enter Try.func5, Try.ntmps5
  go_wp2_with fail
  refine (bytes11_zero _ _ _ _ _).mono ?_
  rintro e w1 ⟨⟨t, rfl⟩, hw⟩
  subst hw
  cases t
  · go_wp2
    go_ret
    exact ⟨rfl, Below.refl _ _⟩
  go_wp2_with fail
  refine (ok7_zero _ _ _ _ _ hx hy).mono ?_
  rintro e w2 ⟨⟨t, rfl, -⟩, hw⟩
  subst hw
  cases t
  · go_wp2
    go_ret
    exact ⟨rfl, Below.refl _ _⟩
  go_wp2_with fail
  refine (clone8_z _ _ _ h).mono ?_
  rintro e w3 ⟨ao', rfl, hb3⟩
  go_wp2_with fail
  refine (has9_zero _ _ _ _).mono ?_
  rintro e w4 ⟨rfl, hg4⟩
  have hb4 := hb3.grown hg4 hb3.size (by simp)
  have hs4 := hb4.size
  clear hb3 hg4
  go_wp2_with (at_make; refine wpList_make_full _ rfl _ _ 22 rfl w2.heap.size 9 i0 (.string ⟨#[]⟩) 1 Try.underlying22 hi hz0 hz1 _ _ _ _ 1 rfl rfl rfl rfl (by rw [hz2]; omega) (by unfold maxLen; omega) (by omega) ?_; intro w5 hown hgrow)
  have hown1 : w5.ownsRow w2.heap.size 9 1 (.slice (some ⟨w4.heap.size, 0, none⟩) 1 1) 1 (([⟨#[]⟩] : List ByteArray).map Value.string) := by
    simpa [toList_madeCells_one, Value.cells] using hown
  have hb5 := hb4.grown hgrow hs4 (by simp)
  have hd5 : w5.cell? ⟨w4.heap.size, 0, none⟩ = some (.string ⟨#[]⟩) := cells_of_own hown1 rfl 0 (by omega)
  have hf5 := hown1.frozenAt 0
  have hP := put (j := 0) hown1 x
  have HP : Hid ((w5.setCell ⟨w4.heap.size, 0, none⟩ (.string x)).ownsRow w2.heap.size 9 1 (.slice (some ⟨w4.heap.size, 0, none⟩) 1 1) 1 (([x] : List ByteArray).map Value.string)) := hP
  clear hown hgrow hP hb4 hown1
  refine wp_loop_rounds 1 ?_
  rw [rounds_succ]
  go_wp2_with fail
  refine (has9_zero _ _ _ _).mono ?_
  rintro e w6 ⟨rfl, hg6⟩
  have hk6 := keep HP.out hg6
  have hb6 := (hb5.setCell (p := ⟨w4.heap.size, 0, none⟩) hs4 (.string x)).grown hg6 (by have := hb5.size; simpa [World.setCell] using this) (by simp)
  have HK6 : Hid (w6.ownsRow w2.heap.size 9 1 (.slice (some ⟨w4.heap.size, 0, none⟩) 1 1) 1 (([x] : List ByteArray).map Value.string)) := hk6
  clear hk6 hg6 hd5 hf5 hb5 HP
  go_wp2_with fail
  refine (has_own y (x.toList == y.toList) HK6.out rfl (by omega) (by simp [hasB])).mono ?_
  rintro e w7 ⟨rfl, hg7⟩
  have hk7 := keep HK6.out hg7
  have hb7 := hb6.grown hg7 hb6.size (by simp)
  have hd7 : w7.cell? ⟨w4.heap.size, 0, none⟩ = some (.string x) := cells_of_own hk7 rfl 0 (by omega)
  have hf7 := hk7.frozenAt 0
  have HP7 : Hid ((w7.setCell ⟨w4.heap.size, 0, none⟩ (.string y)).ownsRow w2.heap.size 9 1 (.slice (some ⟨w4.heap.size, 0, none⟩) 1 1) 1 (([y] : List ByteArray).map Value.string)) := put (j := 0) hk7 y
  clear hk7 hg7 HK6 hb6
  have fin : ∀ (e : Ending) w8, e = .returned (.bool true) ∧ (w7.setCell ⟨w4.heap.size, 0, none⟩ (.string y)).grownBy w8 none → Below w2.heap.size w2 w8 := by
    rintro e w8 ⟨_, hg8⟩
    exact (hb7.setCell (p := ⟨w4.heap.size, 0, none⟩) hs4 (.string y)).grown hg8 (by have := hb7.size; simpa [World.setCell] using this) (by simp)
  have FIN : Hid (∀ (e : Ending) w8, e = .returned (.bool true) ∧ (w7.setCell ⟨w4.heap.size, 0, none⟩ (.string y)).grownBy w8 none → Below w2.heap.size w2 w8) := fin
  clear fin hb7
  cases hE : (x.toList == y.toList)
  all_goals
    go_wp2_with fail
    refine (has_own y true HP7.out rfl (by omega) (by simp [hasB])).mono ?_
    rintro e w8 ⟨rfl, hg8⟩
    go_wp2
    go_ret
    exact ⟨rfl, FIN.out _ _ ⟨rfl, hg8⟩⟩
end Go.Proofs.Qxb6001803a.AddWalk
