import Derived.Test.Qxb6600705aFits
import Derived.Test.Qxb6600705aBack
namespace Go.Proofs.Qxb6600705a.Form
open Go.RowKit Num FitsPlain Fits
open Back (bs own_at conv_back info5)

/-- What the loop holds at round k: the two rows. -/
def Rows2 (w wx : World) (g1 g2 k : Nat) (F : List UInt8) : Prop :=
  Below w.heap.size w wx ∧ wx.ownsRow w.heap.size 5 1 (.slice (some ⟨g1, 0, none⟩) F.length F.length) F.length (bs (mixed o1 F k)) ∧
    wx.ownsRow w.heap.size 5 1 (.slice (some ⟨g2, 0, none⟩) F.length F.length) F.length (bs (mixed b1 F k))

theorem bs_set (l : List UInt8) (k : Nat) (c : UInt8) : bs (l.set k c) = (bs l).set k (.int .u8 (c.toNat : Int)) := by simp [bs, List.map_set]

theorem Rows2.step {w wx : World} {g1 g2 k : Nat} {F : List UInt8} (h : Rows2 w wx g1 g2 k F) (hk : k < F.length) (hne : g1 ≠ g2) (h1 : w.heap.size ≤ g1) (h2 : w.heap.size ≤ g2) {x y : Int} (hx : ((o1 F[k]).toNat : Int) = x) (hy : ((b1 F[k]).toNat : Int) = y) :
    Rows2 w ((wx.setCell ⟨g1, k, none⟩ (.int .u8 x)).setCell ⟨g2, k, none⟩ (.int .u8 y)) g1 g2 (k + 1) F := by
  obtain ⟨p1, p2, p3⟩ := h
  subst hx hy
  have q2 := p2.stored k (.int .u8 ((o1 F[k]).toNat : Int))
  have q3 : (wx.setCell ⟨g1, k, none⟩ (.int .u8 ((o1 F[k]).toNat : Int))).ownsRow w.heap.size 5 1 (.slice (some ⟨g2, 0, none⟩) F.length F.length) F.length (bs (mixed b1 F k)) :=
    p3.kept q2.2 (Or.inr (by simp [Value.ownBlock]; exact fun h => hne h.symm))
  have r3 := q3.stored k (.int .u8 ((b1 F[k]).toNat : Int))
  refine ⟨(p1.setCell h1 _).setCell h2 _, ?_, ?_⟩
  · rw [← mixed_set o1 F k hk, bs_set]
    exact q2.1.kept r3.2 (Or.inr (by simp [Value.ownBlock]; exact hne))
  · rw [← mixed_set b1 F k hk, bs_set]
    exact r3.1

theorem u8_of {c : UInt8} {n : Nat} (hn : n < 256) (h : ((c.toNat : Int) == (n : Int)) = true) : c = UInt8.ofNat n := by
  apply UInt8.toNat_inj.1
  rw [UInt8.toNat_ofNat', Nat.mod_eq_of_lt (by omega)]
  have : (c.toNat : Int) = (n : Int) := by simpa using h
  omega

theorem c48 {c : UInt8} (h : ((c.toNat : Int) == 48) = true) : ((o1 c).toNat : Int) = 57 ∧ ((b1 c).toNat : Int) = 58 ∧ wild c = true := by
  obtain rfl := u8_of (n := 48) (by omega) h
  decide
theorem c84 {c : UInt8} (h : ((c.toNat : Int) == 84) = true) : ((o1 c).toNat : Int) = 116 ∧ ((b1 c).toNat : Int) = 117 ∧ wild c = true := by
  obtain rfl := u8_of (n := 84) (by omega) h
  decide
theorem c43 {c : UInt8} (h : ((c.toNat : Int) == 43) = true) : ((o1 c).toNat : Int) = 45 ∧ ((b1 c).toNat : Int) = 44 ∧ wild c = true := by
  obtain rfl := u8_of (n := 43) (by omega) h
  decide
theorem c0 {c : UInt8} (h1 : ((c.toNat : Int) == 48) = false) (h2 : ((c.toNat : Int) == 84) = false) (h3 : ((c.toNat : Int) == 43) = false) : ((o1 c).toNat : Int) = (c.toNat : Int) ∧ ((b1 c).toNat : Int) = (c.toNat : Int) ∧ wild c = false := by
  have e1 : ¬ c = 48 := by rintro rfl; exact absurd h1 (by decide)
  have e2 : ¬ c = 84 := by rintro rfl; exact absurd h2 (by decide)
  have e3 : ¬ c = 43 := by rintro rfl; exact absurd h3 (by decide)
  simp [o1, b1, wild, e1, e2, e3]

theorem way {w wx : World} {g1 g2 k : Nat} {F : List UInt8} {f : ByteArray} (hF : F = f.data.toList) (h : Rows2 w wx g1 g2 k F) (hk : k < f.size) (hne : g1 ≠ g2) (h1 : w.heap.size ≤ g1) (h2 : w.heap.size ≤ g2) {x y : Int} {t : Bool}
    (hc : ((o1 f[k]).toNat : Int) = x ∧ ((b1 f[k]).toNat : Int) = y ∧ wild f[k] = t) :
    Rows2 w ((wx.setCell ⟨g1, k, none⟩ (.int .u8 x)).setCell ⟨g2, k, none⟩ (.int .u8 y)) g1 g2 (k + 1) F ∧ wildL (F.take (k + 1)) = (wildL (F.take k) || t) := by
  subst hF
  have hk' : k < f.data.toList.length := by rw [← Lib.size_eq]; exact hk
  obtain ⟨hx, hy, ht⟩ := hc
  refine ⟨h.step hk' hne h1 h2 hx hy, ?_⟩
  rw [wildL_snoc _ _ hk']
  rw [← ht]; rfl

theorem bool_eq {a b : Bool} (h : a = b) : Value.bool a = Value.bool b := by rw [h]

theorem conv_n {w : World} {base g n cap : Nat} {l : List UInt8} (h : w.ownsRow base 5 1 (.slice (some ⟨g, 0, none⟩) n cap) n (bs l)) (hl : l.length = n) :
    (convert 24 9 (.slice (some ⟨g, 0, none⟩) n cap)).run Try.prog w = .ok (.string ⟨l.toArray⟩) w := by
  subst hl; exact conv_back h

/-- ZZfits at two lengths that differ. -/
theorem fits9_len (t g : ByteArray) (w : World) (ht : t.size ≤ maxLen) (hg : g.size ≤ maxLen) (h : t.size ≠ g.size) :
    Calls Try.prog 9 #[.string t, .string g] w fun e w' => e = .returned (.bool false) ∧ w' = w :=
  fits9 t g false w ht hg (fitsL_len _ _ (by rw [← Lib.size_eq, ← Lib.size_eq]; exact h))

theorem walk_long (f s : ByteArray) (w : World) (hf : f.size ≤ maxLen) (hs : s.size ≤ maxLen) (h : 524288 < f.size ∨ 524288 < s.size) :
    Calls Try.prog 4 #[.string f, .string s] w fun e w' => e = .returned (.bool true) ∧ Below w.heap.size w w' := by
  unfold maxLen at hf hs
  by_cases h1 : 524288 < f.size
  · go_enter Try.func4, Try.ntmps4
    go_wp2_with fail
    refine (bytes10 _ _ _).mono ?_
    rintro e w1 ⟨⟨t, rfl⟩, hw⟩
    subst hw
    cases t
    all_goals
      go_wp2
      go_ret
      exact ⟨rfl, Below.refl _ _⟩
  · have h2 : 524288 < s.size := by omega
    clear h
    go_enter Try.func4, Try.ntmps4
    go_wp2_with fail
    refine (bytes10 _ _ _).mono ?_
    rintro e w1 ⟨⟨t, rfl⟩, hw⟩
    subst hw
    cases t
    all_goals
      go_wp2
      go_ret
      exact ⟨rfl, Below.refl _ _⟩

set_option maxHeartbeats 1000000 in
theorem walk (f s : ByteArray) (w : World) (hf : f.size ≤ 524288) (hs : s.size ≤ 524288) :
    Calls Try.prog 4 #[.string f, .string s] w fun e w' => e = .returned (.bool true) ∧ Below w.heap.size w w' := by
  obtain ⟨i0, hi, hz0, hz1, hz2⟩ := info_parts info5
  have d1 : decide (524288 < (f.size : Int)) = false := by simp; omega
  have d2 : decide (524288 < (s.size : Int)) = false := by simp; omega
  go_enter Try.func4, Try.ntmps4
  go_wp2_with fail
  refine (bytes10 _ _ _).mono ?_
  rintro e w1 ⟨⟨t, rfl⟩, hw⟩
  subst hw
  cases t
  · go_wp2
    go_ret
    exact ⟨rfl, Below.refl _ _⟩
  go_wp2_with (first | (at_make; refine wpList_make_full _ rfl (.tmp 22) (.tmp 22) 24 rfl w1.heap.size 5 i0 (.int .u8 0) 1 Try.underlying24 hi hz0 hz1 _ _ _ _ f.size rfl rfl rfl rfl (by rw [hz2]; omega) (by unfold maxLen; omega) (Nat.le_refl _) ?_; intro wa ho1 hg1) | (at_make; refine wpList_make_full _ rfl (.tmp 25) (.tmp 25) 24 rfl w1.heap.size 5 i0 (.int .u8 0) 1 Try.underlying24 hi hz0 hz1 _ _ _ _ f.size rfl rfl rfl rfl (by rw [hz2]; omega) (by unfold maxLen; omega) hg1.size ?_; intro wb ho2 hg2))
  have hlt : w1.heap.size < wa.heap.size := (ho1.lt _ rfl).2
  obtain ⟨g2, hg⟩ : ∃ g2, g2 = wa.heap.size := ⟨_, rfl⟩
  obtain ⟨F, hF⟩ : ∃ F, F = f.data.toList := ⟨_, rfl⟩
  have hFl : F.length = f.size := by rw [hF, ← Lib.size_eq]
  have e0 : bs (List.replicate f.size 0) = (madeCells (Value.int .u8 0).cells (f.size * 1)).toList := by
    rw [Nat.mul_one]
    simp [bs, toList_madeCells_one, Value.cells]
  have R0 : Rows2 w1 wb w1.heap.size g2 0 F := by
    refine ⟨((Below.refl _ _).grown hg1 (Nat.le_refl _) (by simp)).grown hg2 hg1.size (by simp), ?_, ?_⟩
    · rw [mixed_zero, hFl, e0]; exact ho1.kept hg2 (Or.inr (by simp [Value.ownBlock]))
    · rw [mixed_zero, hFl, e0, hg]; exact ho2
  have hne : w1.heap.size ≠ g2 := by omega
  have hle : w1.heap.size ≤ g2 := by omega
  rw [← hg]
  have HF : Hid (F = f.data.toList) := hF
  have HR0 : Hid (Rows2 w1 wb w1.heap.size g2 0 F) := R0
  have HFl : Hid (F.length = f.size) := hFl
  clear hg hF e0 ho1 ho2 hg1 hg2 R0 hlt hFl
  go_loopw [7, 8] (fun q i wx => ∃ k : Nat, k ≤ f.size ∧ i = .int .i64 k ∧ q = .bool (wildL (F.take k)) ∧ Rows2 w1 wx w1.heap.size g2 k F) (fun _ i _ => f.size - (intOf i).toNat)
  case atStart => exact ⟨0, Nat.zero_le _, rfl, rfl, HR0.out⟩
  case round =>
    clear HR0
    obtain ⟨k, hk, rfl, rfl, hR⟩ := hrel
    by_cases hlt : k < f.size
    · have hkF : k < F.length := by rw [HFl.out]; exact hlt
      have hlen1 : (mixed o1 F k).length = F.length := mixed_length _ _ _ (by omega)
      have hlen2 : (mixed b1 F k).length = F.length := mixed_length _ _ _ (by omega)
      have hd1 := own_at hR.2.1 k hkF hlen1
      have hd2 := own_at hR.2.2 k hkF hlen2
      have hf1 := hR.2.1.frozenAt k
      have hf2 := hR.2.2.frozenAt k
      generalize ((mixed o1 F k).getD k 0).toNat = u1 at hd1
      generalize ((mixed b1 F k).getD k 0).toNat = u2 at hd2
      have hne' : ¬ g2 = w1.heap.size := by omega
      clear hlen1 hlen2
      have HR : Hid (Rows2 w1 wr w1.heap.size g2 k F) := hR
      clear hR
      go_wp2
      · have hw := way HF.out HR.out hlt hne (Nat.le_refl _) hle (c48 (by assumption))
        clear HR
        go_roundw
        case rel => exact ⟨k + 1, by omega, by go_num, bool_eq (by rw [hw.2]; simp), hw.1⟩
        case measure => simp [intOf]; omega
      · have hw := way HF.out HR.out hlt hne (Nat.le_refl _) hle (c84 (by assumption))
        clear HR
        go_roundw
        case rel => exact ⟨k + 1, by omega, by go_num, bool_eq (by rw [hw.2]; simp), hw.1⟩
        case measure => simp [intOf]; omega
      · have hw := way HF.out HR.out hlt hne (Nat.le_refl _) hle (c43 (by assumption))
        clear HR
        go_roundw
        case rel => exact ⟨k + 1, by omega, by go_num, bool_eq (by rw [hw.2]; simp), hw.1⟩
        case measure => simp [intOf]; omega
      · have hw := way HF.out HR.out hlt hne (Nat.le_refl _) hle (c0 (by assumption) (by assumption) (by assumption))
        clear HR
        go_roundw
        case rel => exact ⟨k + 1, by omega, by go_num, bool_eq (by rw [hw.2]; simp), hw.1⟩
        case measure => simp [intOf]; omega
    · have hkF : k = F.length := by rw [HFl.out]; omega
      have hall : F.take k = F := by rw [hkF, List.take_length]
      have hR2 := hR
      rw [hkF] at hR2
      unfold Rows2 at hR2
      rw [mixed_all, mixed_all, HFl.out] at hR2
      obtain ⟨hB, hr1, hr2⟩ := hR2
      have hv1 := conv_n hr1 (by simp [HFl.out])
      have hv2 := conv_n hr2 (by simp [HFl.out])
      rw [hall]
      have HK : Hid (k = F.length) := hkF
      obtain ⟨W, hW⟩ : ∃ W, W = wildL F := ⟨_, rfl⟩
      rw [← hW]
      have q1 : Hid (fitsL f.data.toList f.data.toList = true) := fits_self _
      have q2 : Hid (fitsL (⟨(F.map o1).toArray⟩ : ByteArray).data.toList f.data.toList = true) := by rw [← HF.out]; exact fits_o F
      have q3 : Hid (fitsL (⟨(F.map b1).toArray⟩ : ByteArray).data.toList f.data.toList = !W) := by rw [← HF.out, hW]; exact fits_b F
      have z0 : Hid (f.size ≤ maxLen) := by show f.size ≤ maxLen; unfold maxLen; omega
      have z1 : Hid ((⟨(F.map o1).toArray⟩ : ByteArray).size ≤ maxLen) := by show (F.map o1).toArray.size ≤ maxLen; simp [HFl.out, maxLen]; omega
      have z2 : Hid ((⟨(F.map b1).toArray⟩ : ByteArray).size ≤ maxLen) := by show (F.map b1).toArray.size ≤ maxLen; simp [HFl.out, maxLen]; omega
      clear hW hall hkF hR hr1 hr2
      generalize F.map o1 = L1 at *
      generalize F.map b1 = L2 at *
      go_wp2_with fail
      refine (fits9 f f true _ z0.out z0.out q1.out).mono ?_
      rintro e w3 ⟨rfl, hw⟩
      subst hw
      go_wp2_with fail
      refine (fits9 _ f true _ z1.out z0.out q2.out).mono ?_
      rintro e w4 ⟨rfl, hw⟩
      subst hw
      go_wp2_with fail
      refine (fits9 _ f (!W) _ z2.out z0.out q3.out).mono ?_
      rintro e w5 ⟨rfl, hw⟩
      subst hw
      clear hv1 hv2 q1 q2 q3 z1 z2
      cases W
      all_goals
        go_wp2_with fail
        refine (fits9_len _ f _ ?_ z0.out ?_).mono ?_
        · rw [ByteArray.size_append]; show f.size + 1 ≤ maxLen; unfold maxLen; omega
        · rw [ByteArray.size_append]; show f.size + 1 ≠ f.size; omega
        rintro e w6 ⟨rfl, hw⟩
        subst hw
        by_cases hp : 0 < f.size
        · go_wp2_with fail
          refine (fits9_len _ f _ ?_ z0.out ?_).mono ?_
          · rw [ByteArray.size_extract]; unfold maxLen; omega
          · rw [ByteArray.size_extract]; omega
          rintro e w7 ⟨rfl, hw⟩
          subst hw
          cases hq1 : ((s.size : Int) == (f.size : Int) + 1)
          · cases hq2 : ((s.size : Int) + 1 == (f.size : Int))
            · go_wp2
              go_ret
              exact ⟨rfl, hB⟩
            · have hc : s.size ≠ f.size := by simp only [beq_iff_eq] at hq2; omega
              have HC : Hid (s.size ≠ f.size) := hc
              clear hc
              go_wp2_with fail
              refine (fits9_len s f _ (by unfold maxLen; omega) z0.out HC.out).mono ?_
              rintro e w8 ⟨rfl, hw⟩
              subst hw
              go_wp2
              go_ret
              exact ⟨rfl, hB⟩
          · have hc : s.size ≠ f.size := by simp only [beq_iff_eq] at hq1; omega
            have HC : Hid (s.size ≠ f.size) := hc
            clear hc
            go_wp2_with fail
            refine (fits9_len s f _ (by unfold maxLen; omega) z0.out HC.out).mono ?_
            rintro e w8 ⟨rfl, hw⟩
            subst hw
            go_wp2
            go_ret
            exact ⟨rfl, hB⟩
        · cases hq1 : ((s.size : Int) == (f.size : Int) + 1)
          · cases hq2 : ((s.size : Int) + 1 == (f.size : Int))
            · go_wp2
              go_ret
              exact ⟨rfl, hB⟩
            · have hc : s.size ≠ f.size := by simp only [beq_iff_eq] at hq2; omega
              have HC : Hid (s.size ≠ f.size) := hc
              clear hc
              go_wp2_with fail
              refine (fits9_len s f _ (by unfold maxLen; omega) z0.out HC.out).mono ?_
              rintro e w8 ⟨rfl, hw⟩
              subst hw
              go_wp2
              go_ret
              exact ⟨rfl, hB⟩
          · have hc : s.size ≠ f.size := by simp only [beq_iff_eq] at hq1; omega
            have HC : Hid (s.size ≠ f.size) := hc
            clear hc
            go_wp2_with fail
            refine (fits9_len s f _ (by unfold maxLen; omega) z0.out HC.out).mono ?_
            rintro e w8 ⟨rfl, hw⟩
            subst hw
            go_wp2
            go_ret
            exact ⟨rfl, hB⟩
end Go.Proofs.Qxb6600705a.Form
