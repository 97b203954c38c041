import Derived.Test.Qxb6001803aAddWalk
namespace Go.Proofs.Qxb6001803a.AddWalk
open Go.RowKit Has Set

theorem mixed_set2 (S : List ByteArray) (m k : Nat) (hk : k < m) (hkl : k < S.length) :
    (S.take k ++ List.replicate (m - k) ByteArray.empty).set k (S.getD k ByteArray.empty) = S.take (k + 1) ++ List.replicate (m - (k + 1)) ByteArray.empty := by
  have hlen : (S.take k).length = k := by rw [List.length_take]; omega
  rw [List.take_succ_eq_append_getElem hkl, List.set_append_right _ _ (by omega), hlen, Nat.sub_self]
  have e : m - k = (m - (k + 1)) + 1 := by omega
  rw [e, List.replicate_succ, List.set_cons_zero, List.append_assoc]
  simp [List.getD, hkl]

theorem set_last (S : List ByteArray) (a x : ByteArray) : (S ++ [a]).set S.length x = S ++ [x] := by
  rw [List.set_append_right _ _ (Nat.le_refl _), Nat.sub_self, List.set_cons_zero]

/-- What the loop holds at round k. -/
def Rel (w wr : World) (G g len k : Nat) (S : List ByteArray) : Prop :=
  Below w.heap.size w wr ∧ wr.ownsRow w.heap.size 9 1 (.slice (some ⟨G, 0, none⟩) len len) len (S.map Value.string) ∧
    wr.ownsRow w.heap.size 9 1 (.slice (some ⟨g, 0, none⟩) (len + 1) (len + 1)) (len + 1) ((S.take k ++ List.replicate (len + 1 - k) ByteArray.empty).map Value.string)

theorem Rel.step {w wr : World} {G g len k : Nat} {S : List ByteArray} (h : Rel w wr G g len k S) (hGg : G ≠ g) (hg : w.heap.size ≤ g) (hS : S.length = len) (hk : k < len) :
    Rel w (wr.setCell ⟨g, k, none⟩ (.string (S.getD k ByteArray.empty))) G g len (k + 1) S := by
  obtain ⟨h1, h2, h3⟩ := h
  refine ⟨h1.setCell hg _, h2.kept (h3.stored k _).2 (Or.inr (by simpa [Value.ownBlock] using hGg)), ?_⟩
  rw [← mixed_set2 S (len + 1) k (by omega) (by omega), List.map_set]
  exact (h3.stored k _).1

/-- What stands behind the loop: the set, and the grown one with z at its end. -/
def Fin (w wr : World) (G g len : Nat) (S : List ByteArray) (z : ByteArray) : Prop :=
  Below w.heap.size w wr ∧ wr.ownsRow w.heap.size 9 1 (.slice (some ⟨G, 0, none⟩) len len) len (S.map Value.string) ∧
    wr.ownsRow w.heap.size 9 1 (.slice (some ⟨g, 0, none⟩) (len + 1) (len + 1)) (len + 1) ((S ++ [z]).map Value.string)

theorem Rel.fin {w wr : World} {G g len : Nat} {S : List ByteArray} (h : Rel w wr G g len len S) (hS : S.length = len) : Fin w wr G g len S ByteArray.empty := by
  obtain ⟨h1, h2, h3⟩ := h
  refine ⟨h1, h2, ?_⟩
  have e : S.take len ++ List.replicate (len + 1 - len) ByteArray.empty = S ++ [ByteArray.empty] := by
    rw [List.take_of_length_le (by omega), show len + 1 - len = 1 by omega]; rfl
  rw [e] at h3
  exact h3

theorem Fin.put {w wr : World} {G g len : Nat} {S : List ByteArray} {z : ByteArray} (h : Fin w wr G g len S z) (hGg : G ≠ g) (hg : w.heap.size ≤ g) (hS : S.length = len) (u : ByteArray) :
    Fin w (wr.setCell ⟨g, len, none⟩ (.string u)) G g len S u := by
  obtain ⟨h1, h2, h3⟩ := h
  refine ⟨h1.setCell hg _, h2.kept (h3.stored len _).2 (Or.inr (by simpa [Value.ownBlock] using hGg)), ?_⟩
  have := (h3.stored len (.string u)).1
  rw [← List.map_set] at this
  subst hS
  rw [set_last] at this
  exact this

theorem Fin.grow {w wr wx : World} {G g len : Nat} {S : List ByteArray} {z : ByteArray} (h : Fin w wr G g len S z) (hg : wr.grownBy wx none) : Fin w wx G g len S z :=
  ⟨h.1.grown hg h.1.size (by simp), keep h.2.1 hg, keep h.2.2 hg⟩

theorem Fin.cell {w wr : World} {G g len : Nat} {S : List ByteArray} {z : ByteArray} (h : Fin w wr G g len S z) (hS : S.length = len) : wr.cell? ⟨g, len, none⟩ = some (.string z) := by
  subst hS
  rw [h.2.2.cellAt _ (by omega)]; simp

theorem Fin.free {w wr : World} {G g len : Nat} {S : List ByteArray} {z : ByteArray} (h : Fin w wr G g len S z) : wr.frozen? ⟨g, len, none⟩ = false := h.2.2.frozenAt _

theorem walk_full (b off len cap : Nat) (ss : List ByteArray) (x y : ByteArray) (w : World) (hM : len ≤ maxLen) (hx : x.size ≤ maxLen) (hy : y.size ≤ maxLen) (hl : len ≤ ss.length) (hc : ∀ i, i < ss.length → w.cell? ⟨b, off + i, none⟩ = some (.string (ss.getD i ByteArray.empty))) :
    Calls Try.prog 5 #[.slice (some ⟨b, off, none⟩) len cap, .string x, .string y] w fun e w' => e = .returned (.bool true) ∧ Below w.heap.size w w' := by
  obtain ⟨i0, hi, hz0, hz1, hz2⟩ := info_parts info9
  go_enter Try.func5, Try.ntmps5
  go_wp2_with fail
  refine (bytes11 b off len cap ss _ _ _ hM hl hc).mono ?_
  rintro e w1 ⟨⟨t, rfl⟩, hw⟩
  subst hw
  cases t
  · go_wp2
    go_ret
    exact ⟨rfl, Below.refl _ _⟩
  go_wp2_with fail
  refine (ok7 b off len cap ss _ _ _ hM hx hy hl hc).mono ?_
  rintro e w2 ⟨⟨t, rfl, hsm⟩, hw⟩
  subst hw
  cases t
  · go_wp2
    go_ret
    exact ⟨rfl, Below.refl _ _⟩
  have hsml : len ≤ 65536 := hsm rfl
  clear hsm
  go_wp2_with fail
  refine (clone8 b off len cap ss _ hsml hl hc).mono ?_
  rintro e w3 ⟨rfl, hb3, hown3⟩
  obtain ⟨S, hSe⟩ : ∃ S, S = ss.take len := ⟨_, rfl⟩
  have hS : S.length = len := by rw [hSe, List.length_take]; omega
  rw [← hSe] at hown3
  clear hSe hc hM hl
  go_wp2_with fail
  refine (has9_zero _ _ _ _).mono ?_
  rintro e w4 ⟨rfl, hg4⟩
  have hb4 := hb3.grown hg4 hb3.size (by simp)
  have hown4 := keep hown3 hg4
  have hlt4 := lt_of_own hown4
  clear hb3 hg4 hown3
  go_wp2_with (at_make; refine wpList_make_full _ rfl _ _ 22 rfl w2.heap.size 9 i0 (.string ⟨#[]⟩) 1 Try.underlying22 hi hz0 hz1 _ _ _ _ (len + 1) rfl rfl (by omega) (by omega) (by rw [hz2]; omega) (by unfold maxLen; omega) (by omega) ?_; intro w5 hown hgrow)
  have hne : w2.heap.size ≠ w4.heap.size := by omega
  have hge : w2.heap.size ≤ w4.heap.size := by omega
  have R0 : Rel w2 w5 w2.heap.size w4.heap.size len 0 S := by
    refine ⟨hb4.grown hgrow hge (by simp), keep hown4 hgrow, ?_⟩
    have e0 : ByteArray.empty = ⟨#[]⟩ := rfl
    have e : (List.take 0 S ++ List.replicate (len + 1 - 0) ByteArray.empty).map Value.string = List.replicate (len + 1) (Value.string ⟨#[]⟩) := by
      simp [e0]
    rw [e]
    simpa [toList_madeCells_one, Value.cells] using hown
  have HR0 : Hid (Rel w2 w5 w2.heap.size w4.heap.size len 0 S) := R0
  clear R0 hown hgrow hb4 hown4
  go_loopw [8] (fun i wr => ∃ k : Nat, k ≤ len ∧ i = .int .i64 k ∧ Rel w2 wr w2.heap.size w4.heap.size len k S) (fun i _ => len - (intOf i).toNat)
  case atStart => exact ⟨0, Nat.zero_le _, rfl, HR0.out⟩
  case round =>
    obtain ⟨k, hk, rfl, hR⟩ := hrel
    by_cases hlt : k < len
    · have hc2 := cells_of_own hR.2.1 hS k hlt
      obtain ⟨s, hs⟩ : ∃ s, s = S.getD k ByteArray.empty := ⟨_, rfl⟩
      rw [← hs] at hc2
      have hd2 : ∃ v, wr.cell? ⟨w4.heap.size, k, none⟩ = some (.string v) := by
        rw [hR.2.2.cellAt k (by omega)]
        have h1 : k < (S.take k ++ List.replicate (len + 1 - k) ByteArray.empty).length := by simp; omega
        exact ⟨(S.take k ++ List.replicate (len + 1 - k) ByteArray.empty)[k], by rw [List.getElem?_map, List.getElem?_eq_getElem h1]; rfl⟩
      obtain ⟨v, hd2⟩ := hd2
      have hf2 := hR.2.2.frozenAt k
      have HN : Hid (Rel w2 (wr.setCell ⟨w4.heap.size, k, none⟩ (.string s)) w2.heap.size w4.heap.size len (k + 1) S) := by rw [hs]; exact hR.step hne hge hS hlt
      clear hR hs HR0
      go_wp2
      go_roundw
      case rel => exact ⟨k + 1, by omega, by go_num, HN.out⟩
      case measure => simp [intOf]; omega
    · obtain rfl : k = len := by omega
      have F := hR.fin hS
      have hd2 := F.cell hS
      have hf2 := F.free
      have HF : Hid (Fin w2 (wr.setCell ⟨w4.heap.size, k, none⟩ (.string x)) w2.heap.size w4.heap.size k S x) := F.put hne hge hS x
      clear F hR HR0
      go_wp2_with fail
      refine (has_own y (hasB S y) HF.out.2.1 hS (by omega) rfl).mono ?_
      rintro e w6 ⟨rfl, hg6⟩
      have HF6 : Hid (Fin w2 w6 w2.heap.size w4.heap.size k S x) := HF.out.grow hg6
      clear hg6 HF hd2 hf2
      go_wp2_with fail
      refine (has_own y (hasB S y || (x.toList == y.toList)) HF6.out.2.2 (by simp [hS]) (by omega) (hasB_snoc _ _ _)).mono ?_
      rintro e w7 ⟨rfl, hg7⟩
      have F7 := HF6.out.grow hg7
      have hd7 := F7.cell hS
      have hf7 := F7.free
      have HF7 : Hid (Fin w2 (w7.setCell ⟨w4.heap.size, k, none⟩ (.string y)) w2.heap.size w4.heap.size k S y) := F7.put hne hge hS y
      clear F7 hg7 HF6
      generalize hasB S y = q
      cases q <;> cases hE : (x.toList == y.toList)
      all_goals
        go_wp2_with fail
        refine (has_own y true HF7.out.2.2 (by simp [hS]) (by omega) (by rw [hasB_snoc]; simp)).mono ?_
        rintro e w8 ⟨rfl, hg8⟩
        go_wp2
        go_ret
        exact ⟨rfl, (HF7.out.grow hg8).1⟩
end Go.Proofs.Qxb6001803a.AddWalk
