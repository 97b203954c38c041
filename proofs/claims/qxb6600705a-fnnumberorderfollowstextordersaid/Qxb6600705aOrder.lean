import Derived.Test.Qxb6600705aNum
import Derived.Deep.QuietTactic
import Derived.BigQuiet
namespace Go.Proofs.Qxb6600705a.Order
open Go.RowKit Plain Num

theorem num13' (s : ByteArray) (x : Int) (w : World) (hs : s.size ≤ maxLen) (hx : wrap64 (val s.data.toList) = x) :
    Calls Try.prog 13 #[.string s] w fun e w' => e = .returned (.int .i64 x) ∧ w' = w := by
  subst hx; exact num13 s w hs

theorem all12' (s : ByteArray) (q : Bool) (w : World) (hs : s.size ≤ maxLen) (hq : digs s.data.toList = q) :
    Calls Try.prog 12 #[.string s] w fun e w' => e = .returned (.bool q) ∧ w' = w := by
  subst hq; exact all12 s w hs

theorem below_drewN' {B : Nat} {a w : World} (h : Below B a w) (n : Nat) : Below B a (w.drewN n) := ⟨h.os, h.tape, h.output, h.size, h.block⟩

/-- Behind the loop: two numbers, and how their texts compare. -/
def Cmp (c x y : Int) : Prop := (c = -1 ∧ x < y) ∨ (c = 1 ∧ y < x) ∨ (c = 0 ∧ x = y)

theorem walk_early (a b : ByteArray) (w : World) (ha : a.size ≤ maxLen) (hb : b.size ≤ maxLen) (h : 524288 < a.size ∨ 524288 < b.size ∨ a.size ≠ b.size ∨ 18 < a.size) :
    Calls Try.prog 7 #[.string a, .string b] w fun e w' => e = .returned (.bool true) ∧ Below w.heap.size w w' := by
  unfold maxLen at ha hb
  by_cases h1 : 524288 < a.size
  · go_enter Try.func7, Try.ntmps7
    go_wp2_with fail
    refine (bytes14 _ _ _).mono ?_
    rintro e w1 ⟨⟨t, rfl⟩, hw⟩
    subst hw
    cases t
    all_goals
      go_wp2
      go_ret
      exact ⟨rfl, Below.refl _ _⟩
  · by_cases h2 : 524288 < b.size
    · go_enter Try.func7, Try.ntmps7
      go_wp2_with fail
      refine (bytes14 _ _ _).mono ?_
      rintro e w1 ⟨⟨t, rfl⟩, hw⟩
      subst hw
      cases t
      all_goals
        go_wp2
        go_ret
        exact ⟨rfl, Below.refl _ _⟩
    · by_cases h3 : a.size = b.size
      · have h4 : 18 < a.size := by omega
        have hne : ((a.size : Int) != (b.size : Int)) = false := by simp [h3]
        clear h h3
        go_enter Try.func7, Try.ntmps7
        go_wp2_with fail
        refine (bytes14 _ _ _).mono ?_
        rintro e w1 ⟨⟨t, rfl⟩, hw⟩
        subst hw
        cases t
        · go_wp2
          go_ret
          exact ⟨rfl, Below.refl _ _⟩
        · go_wp2_with fail
          refine (max15 _).mono ?_
          rintro e w2 ⟨rfl, hw⟩
          subst hw
          go_wp2
          go_ret
          exact ⟨rfl, Below.refl _ _⟩
      · have hne : ((a.size : Int) != (b.size : Int)) = true := by simp; omega
        clear h h3
        go_enter Try.func7, Try.ntmps7
        go_wp2_with fail
        refine (bytes14 _ _ _).mono ?_
        rintro e w1 ⟨⟨t, rfl⟩, hw⟩
        subst hw
        cases t
        all_goals
          go_wp2
          go_ret
          exact ⟨rfl, Below.refl _ _⟩

theorem order_lt (a b : ByteArray) (k : Nat) (da : digs a.data.toList = true) (db : digs b.data.toList = true) (hl : a.size = b.size) (hk : k < a.size) (hkb : k < b.size) (h : a.data.toList.take k = b.data.toList.take k) (hab : (a[k].toNat : Int) < (b[k].toNat : Int)) : val a.data.toList < val b.data.toList :=
  val_order _ _ k da db (by rw [← Lib.size_eq, ← Lib.size_eq]; exact hl) (by rw [← Lib.size_eq]; exact hk) (by rw [← Lib.size_eq]; exact hkb) h (by exact_mod_cast hab)

theorem take_next (a b : ByteArray) (k : Nat) (hk : k < a.size) (hkb : k < b.size) (h : a.data.toList.take k = b.data.toList.take k) (e : ((a[k].toNat : Int) != (b[k].toNat : Int)) = false) : a.data.toList.take (k + 1) = b.data.toList.take (k + 1) := by
  rw [take_snoc a k hk, take_snoc b k hkb, h]
  have : a[k] = b[k] := by
    apply UInt8.toNat_inj.1
    simp only [bne_eq_false_iff_eq] at e
    omega
  rw [this]

set_option maxHeartbeats 1000000 in
theorem walk (a b : ByteArray) (w : World) (hl : a.size = b.size) (h18 : a.size ≤ 18) :
    Calls Try.prog 7 #[.string a, .string b] w fun e w' => e = .returned (.bool true) ∧ Below w.heap.size w w' := by
  have d1 : decide (524288 < (a.size : Int)) = false := by simp; omega
  have d2 : decide (524288 < (b.size : Int)) = false := by simp; omega
  have d3 : ((a.size : Int) != (b.size : Int)) = false := by simp [hl]
  have d4 : decide (18 < (a.size : Int)) = false := by simp; omega
  have za : Hid (a.size ≤ maxLen) := by show a.size ≤ maxLen; unfold maxLen; omega
  have zb : Hid (b.size ≤ maxLen) := by show b.size ≤ maxLen; unfold maxLen; omega
  have hb18 : b.size ≤ 18 := by omega
  have HL : Hid (a.size = b.size) := hl
  clear hl
  go_enter Try.func7, Try.ntmps7
  go_wp2_with fail
  refine (bytes14 _ _ _).mono ?_
  rintro e w1 ⟨⟨t, rfl⟩, hw⟩
  subst hw
  cases t
  · go_wp2
    go_ret
    exact ⟨rfl, Below.refl _ _⟩
  go_wp2_with fail
  refine (max15 _).mono ?_
  rintro e w2 ⟨rfl, hw⟩
  subst hw
  go_wp2_with fail
  cases hda : digs a.data.toList
  · refine (all12' a false _ za.out hda).mono ?_
    rintro e w3 ⟨rfl, hw⟩
    subst hw
    clear hda
    go_wp2
    go_ret
    exact ⟨rfl, Below.refl _ _⟩
  refine (all12' a true _ za.out hda).mono ?_
  rintro e w3 ⟨rfl, hw⟩
  subst hw
  have Hda : Hid (digs a.data.toList = true) := hda
  clear hda
  go_wp2_with fail
  cases hdb : digs b.data.toList
  · refine (all12' b false _ zb.out hdb).mono ?_
    rintro e w4 ⟨rfl, hw⟩
    subst hw
    clear hdb
    go_wp2
    go_ret
    exact ⟨rfl, Below.refl _ _⟩
  refine (all12' b true _ zb.out hdb).mono ?_
  rintro e w4 ⟨rfl, hw⟩
  subst hw
  have Hdb : Hid (digs b.data.toList = true) := hdb
  clear hdb
  have hla : a.data.toList.length = a.size := (Lib.size_eq a).symm
  have hlb : b.data.toList.length = b.size := (Lib.size_eq b).symm
  obtain ⟨x, hx⟩ : ∃ x, x = val a.data.toList := ⟨_, rfl⟩
  obtain ⟨y, hy⟩ : ∃ y, y = val b.data.toList := ⟨_, rfl⟩
  have wa : Hid (wrap64 (val a.data.toList) = x) := by rw [hx]; exact wrap_val _ Hda.out (by omega)
  have wb : Hid (wrap64 (val b.data.toList) = y) := by rw [hy]; exact wrap_val _ Hdb.out (by omega)
  have HX : Hid (x = val a.data.toList) := hx
  have HY : Hid (y = val b.data.toList) := hy
  clear hla hlb hx hy
  go_wp2
  go_loopw [5, 6] (fun c i wx => ∃ k : Nat, k ≤ a.size ∧ i = .int .i64 k ∧ c = .int .i64 0 ∧ a.data.toList.take k = b.data.toList.take k ∧ ∃ nq, wx = w4.drewN nq) (fun _ i _ => a.size - (intOf i).toNat)
  case atStart => exact ⟨0, Nat.zero_le _, rfl, rfl, rfl, 0, rfl⟩
  case round =>
    obtain ⟨k, hk, rfl, rfl, hpre, nq, rfl⟩ := hrel
    have HP : Hid (a.data.toList.take k = b.data.toList.take k) := hpre
    clear hpre
    by_cases hlt : k < a.size
    · have hltb : k < b.size := by rw [← HL.out]; exact hlt
      have hb1 : 0 ≤ (k : Int) ∧ (k : Int) < (a.size : Int) := by omega
      have hb2 : 0 ≤ (k : Int) ∧ (k : Int) < (b.size : Int) := by omega
      cases hE : ((a[k].toNat : Int) != (b[k].toNat : Int))
      · have HN : Hid (a.data.toList.take (k + 1) = b.data.toList.take (k + 1)) := take_next a b k hlt hltb HP.out hE
        go_wp2
        go_region
        go_wp2
        go_roundw
        case rel => exact ⟨k + 1, by omega, by go_num, rfl, HN.out, nq + 1, rfl⟩
        case measure => simp [intOf]; omega
      · by_cases hc : (a[k].toNat : Int) < (b[k].toNat : Int)
        · have hxy : x < y := by rw [HX.out, HY.out]; exact order_lt a b k Hda.out Hdb.out HL.out hlt hltb HP.out hc
          have hxe : (x == y) = false := by simp; omega
          go_wp2
          go_region
          go_wp2
          go_region
          go_wp2_with fail
          refine (num13' a x _ za.out wa.out).mono ?_
          rintro e w5 ⟨rfl, hw⟩
          subst hw
          go_wp2_with fail
          refine (num13' b y _ zb.out wb.out).mono ?_
          rintro e w6 ⟨rfl, hw⟩
          subst hw
          go_wp2
          go_ret
          exact ⟨rfl, below_drewN' (Below.refl _ _) _⟩
        · have hne : (b[k].toNat : Int) < (a[k].toNat : Int) := by simp only [bne_iff_ne] at hE; omega
          have hxy : y < x := by rw [HX.out, HY.out]; exact order_lt b a k Hdb.out Hda.out HL.out.symm hltb hlt HP.out.symm hne
          have hxe : (x == y) = false := by simp; omega
          have hxd : decide (x < y) = false := by simp; omega
          clear hne
          go_wp2
          go_region
          go_wp2
          go_region
          go_wp2_with fail
          refine (num13' a x _ za.out wa.out).mono ?_
          rintro e w5 ⟨rfl, hw⟩
          subst hw
          go_wp2_with fail
          refine (num13' b y _ zb.out wb.out).mono ?_
          rintro e w6 ⟨rfl, hw⟩
          subst hw
          go_wp2
          go_ret
          exact ⟨rfl, below_drewN' (Below.refl _ _) _⟩
    · obtain rfl : k = a.size := by omega
      have hxe : y = x := by
        rw [HX.out, HY.out]
        have h := HP.out
        rw [take_all, HL.out, take_all] at h
        rw [h]
      subst hxe
      go_wp2_with fail
      refine (num13' a y _ za.out wa.out).mono ?_
      rintro e w5 ⟨rfl, hw⟩
      subst hw
      go_wp2_with fail
      refine (num13' b y _ zb.out wb.out).mono ?_
      rintro e w6 ⟨rfl, hw⟩
      subst hw
      go_wp2
      go_ret
      exact ⟨rfl, below_drewN' (Below.refl _ _) _⟩
end Go.Proofs.Qxb6600705a.Order
