import Derived.Test.Qxb6001778aScan
namespace Go.Proofs.Qxb6001778a.NextWalk
open Go.RowKit

theorem below_drewN' {B : Nat} {a w : World} (h : Below B a w) (n : Nat) : Below B a (w.drewN n) := ⟨h.os, h.tape, h.output, h.size, h.block⟩

theorem walk_nil (a0 : Int) (w : World) :
    Calls Try.prog 3 #[.int .i64 a0, .slice none 0 0] w fun e w' => e = .returned (.bool true) ∧ Below w.heap.size w w' := by
  go_enter Try.func3, Try.ntmps3
  go_wp2_with fail
  refine (Scan.bytes6 _ _ _ _ _).mono ?_
  rintro e w1 ⟨⟨b, rfl⟩, hw⟩
  subst hw
  cases b
  · go_wp2
    go_ret
    exact ⟨rfl, Below.refl _ _⟩
  · go_wp2_with fail
    refine (Scan.clone7_nil _).mono ?_
    rintro e w2 ⟨rfl, hw⟩
    subst hw
    go_wp2_with (go_at_call 8; go_in)
    refine (Scan.read9_empty _ none 0 _ _ (by simp) (by simp; rfl) (by simp)).mono ?_
    rintro e w3 ⟨rfl, nq, st, hst, rfl⟩
    go_wp2_with fail
    refine (Scan.next10 _ st _ (by simp) hst).mono ?_
    rintro e w4 ⟨rfl, hw⟩
    subst hw
    go_wp2
    go_ret
    exact ⟨rfl, below_drewN' ((Below.refl _ _).alloc (Nat.le_refl _) _) _⟩

theorem walk_empty (a0 : Int) (x : Addr) (cap : Nat) (w : World) :
    Calls Try.prog 3 #[.int .i64 a0, .slice (some x) 0 cap] w fun e w' => e = .returned (.bool true) ∧ Below w.heap.size w w' := by
  go_enter Try.func3, Try.ntmps3
  go_wp2_with fail
  refine (Scan.bytes6 _ _ _ _ _).mono ?_
  rintro e w1 ⟨⟨b, rfl⟩, hw⟩
  subst hw
  cases b
  · go_wp2
    go_ret
    exact ⟨rfl, Below.refl _ _⟩
  · go_wp2_with fail
    refine (Scan.clone7_empty _ _ _).mono ?_
    rintro e w2 ⟨rfl, hb⟩
    go_wp2_with (go_at_call 8; go_in)
    refine (Scan.read9_empty _ _ 0 _ _ (by simp; rfl) (by simp; rfl) (by simp)).mono ?_
    rintro e w3 ⟨rfl, nq, st, hst, rfl⟩
    go_wp2_with fail
    refine (Scan.next10 _ st _ (by simp) hst).mono ?_
    rintro e w4 ⟨rfl, hw⟩
    subst hw
    go_wp2
    go_ret
    exact ⟨rfl, below_drewN' (hb.alloc hb.size _) _⟩

theorem walk_full (a0 : Int) (b off len cap : Nat) (zs : List Int) (w : World) (hp : 1 ≤ len) (hl : len ≤ zs.length) (hM : len ≤ maxLen) (hcell : ∀ i, i < zs.length → w.cell? ⟨b, off + i, none⟩ = some (.int .u8 (zs.getD i 0))) :
    Calls Try.prog 3 #[.int .i64 a0, .slice (some ⟨b, off, none⟩) len cap] w fun e w' => e = .returned (.bool true) ∧ Below w.heap.size w w' := by
  unfold maxLen at hM
  go_enter Try.func3, Try.ntmps3
  go_wp2_with fail
  refine (Scan.bytes6 _ _ _ _ _).mono ?_
  rintro e w1 ⟨⟨t, rfl⟩, hw⟩
  subst hw
  cases t
  · go_wp2
    go_ret
    exact ⟨rfl, Below.refl _ _⟩
  · by_cases hbig : 65536 < len
    · go_wp2_with fail
      go_ret
      exact ⟨rfl, Below.refl _ _⟩
    · go_wp2_with fail
      refine (Scan.clone7 b off len cap zs _ (by omega) hl hcell).mono ?_
      rintro e w2 ⟨rfl, hb, ys, hys, hown⟩
      have hlt := (hown.lt _ rfl).2
      have hlast : w2.cell? ⟨w1.heap.size, len - 1, none⟩ = some (.int .u8 (ys.getD (len - 1) 0)) := by
        rw [hown.cellAt (len - 1) (by omega)]; simp [List.getD, hys, show len - 1 < len by omega]
      clear hcell hown
      go_wp2_with (go_at_call 8; go_in)
      refine (Scan.read9_full _ w1.heap.size len len (ys.getD (len - 1) 0) (.int .i64 a0) _ hp (by omega) (by simp) (by simp) (by simp) ?_).mono ?_
      · rw [World.cell?_alloc_lt _ _ _ hlt]; exact hlast
      rintro e w3 ⟨rfl, nq, st, hst, rfl⟩
      go_wp2_with fail
      refine (Scan.next10 _ st _ (by simp) hst).mono ?_
      rintro e w4 ⟨rfl, hw⟩
      subst hw
      go_wp2
      go_ret
      exact ⟨rfl, below_drewN' (hb.alloc hb.size _) _⟩
end Go.Proofs.Qxb6001778a.NextWalk
