import Derived.Test.Qxb6600705aNum
namespace Go.Proofs.Qxb6600705a.Back
open Go.RowKit Plain Num

theorem info5 : (Try.prog.info? 5).map (fun i => (i.zero, i.size, i.bytes)) = some (some (.int .u8 0), 1, 1) := by kernel_rfl

/-- Bytes as cells. -/
def bs (l : List UInt8) : List Value := l.map fun c => Value.int .u8 (c.toNat : Int)

theorem bs_snoc (l : List UInt8) (c : UInt8) : bs (l ++ [c]) = bs l ++ [.int .u8 (c.toNat : Int)] := by simp [bs]

theorem digit (M : Nat) : ∃ c : UInt8, (c.toNat : Int) = 48 + (M : Int) % 10 := by
  refine ⟨UInt8.ofNat (48 + M % 10), ?_⟩
  rw [UInt8.toNat_ofNat']
  omega

/-- What the first loop holds: r the digits gathered, M what is left of n. -/
def Dec (n M : Nat) (r : List UInt8) : Prop := n = M * 10 ^ r.length + (val r.reverse).toNat ∧ 0 ≤ val r.reverse ∧ r.length ≤ 19

theorem Dec.start (n : Nat) : Dec n n [] := by
  refine ⟨?_, ?_, ?_⟩ <;> simp [val]

theorem Dec.short {n M : Nat} {r : List UInt8} (h : Dec n M r) (hn : n < 9223372036854775808) (hM : 0 < M) : r.length ≤ 18 := by
  obtain ⟨h1, _, h3⟩ := h
  rcases Nat.lt_or_ge r.length 19 with h4 | h4
  · omega
  · have h5 : r.length = 19 := by omega
    rw [h5] at h1
    have : 1 * 10 ^ 19 ≤ M * 10 ^ 19 := Nat.mul_le_mul_right _ hM
    omega

theorem Dec.step {n M : Nat} {r : List UInt8} (h : Dec n M r) (hn : n < 9223372036854775808) (hM : 0 < M) (c : UInt8) (hc : (c.toNat : Int) = 48 + (M : Int) % 10) : Dec n (M / 10) (r ++ [c]) := by
  have hs := h.short hn hM
  obtain ⟨h1, h2, h3⟩ := h
  have hd : dg c = ((M % 10 : Nat) : Int) := by unfold dg; omega
  have e : val (r ++ [c]).reverse = ((M % 10 * 10 ^ r.length : Nat) : Int) + val r.reverse := by
    rw [List.reverse_append, List.reverse_singleton, List.singleton_append, val_cons, hd, List.length_reverse]
    simp
  refine ⟨?_, ?_, ?_⟩
  · rw [e, List.length_append, List.length_singleton, Nat.pow_succ]
    have e2 : M * 10 ^ r.length = M / 10 * (10 ^ r.length * 10) + M % 10 * 10 ^ r.length := by
      have := Nat.div_add_mod M 10
      calc M * 10 ^ r.length = (10 * (M / 10) + M % 10) * 10 ^ r.length := by rw [this]
        _ = M / 10 * (10 ^ r.length * 10) + M % 10 * 10 ^ r.length := by rw [Nat.add_mul]; congr 1; rw [Nat.mul_comm 10, Nat.mul_assoc, Nat.mul_comm 10]
    rw [h1, e2]
    omega
  · rw [e]; omega
  · simp; omega

theorem Dec.done {n : Nat} {r : List UInt8} (h : Dec n 0 r) : val r.reverse = (n : Int) := by
  obtain ⟨h1, h2, _⟩ := h
  omega

theorem shape {w : World} {base : Nat} {v : Value} {n : Nat} {xs : List Value} (h : w.ownsRow base 5 1 v n xs) (hn : 0 < n) : ∃ g cap, v = .slice (some ⟨g, 0, none⟩) n cap := by
  rcases h.2 with ⟨_, h'⟩ | ⟨g, cap, _, h', _⟩
  · omega
  · exact ⟨g, cap, h'⟩

theorem own_snoc {w : World} {base : Nat} {v : Value} {l : List UInt8} {x : Int} (c : UInt8) (hc : (c.toNat : Int) = x) (h : w.ownsRow base 5 1 v (l.length + 1) (bs l ++ [.int .u8 x])) : w.ownsRow base 5 1 v (l ++ [c]).length (bs (l ++ [c])) := by
  rw [bs_snoc, hc, List.length_append]; exact h

theorem below_app {B : Nat} {w0 w w1 : World} {o : Obj} {base : Nat} {v : Value} {n : Nat} {xs : List Value} (hb : Below B w0 w) (hB : B ≤ w.heap.size) (hown : w.ownsRow base 5 1 v n xs) (hbase : B ≤ base) (hg : (w.alloc o).grownBy w1 v.ownBlock) : Below B w0 w1 :=
  (hb.alloc hB o).grown hg (by simp; omega) (fun k hk => by have := (hown.lt k hk).1; omega)

theorem keep_app {w w1 : World} {o : Obj} {base g L cap B2 n : Nat} {v : Value} {xs ys : List Value} (hr : w.ownsRow base 5 1 (.slice (some ⟨g, 0, none⟩) L cap) L xs) (hv : w.ownsRow B2 5 1 v n ys) (hg : g < B2) (hgr : (w.alloc o).grownBy w1 v.ownBlock) : w1.ownsRow base 5 1 (.slice (some ⟨g, 0, none⟩) L cap) L xs := by
  refine (hr.alloc o).kept hgr (Or.inr ?_)
  intro h
  have := (hv.lt g h.symm).1
  omega

theorem own_at {w : World} {base g L cap : Nat} {l : List UInt8} (h : w.ownsRow base 5 1 (.slice (some ⟨g, 0, none⟩) L cap) L (bs l)) (m : Nat) (hm : m < L) (hL : l.length = L) : w.cell? ⟨g, m, none⟩ = some (.int .u8 ((l.getD m 0).toNat : Int)) := by
  rw [h.cellAt m (by omega)]
  simp [bs, List.getD, show m < l.length by omega]

theorem drop_rev (r : List UInt8) (m : Nat) (h : m < r.length) : (r.drop m).reverse = (r.drop (m + 1)).reverse ++ [r.getD m 0] := by
  rw [List.drop_eq_getElem_cons h, List.reverse_cons]
  simp [List.getD, h]

theorem num13' (s : ByteArray) (x : Int) (w : World) (hs : s.size ≤ maxLen) (hx : wrap64 (val s.data.toList) = x) :
    Calls Try.prog 13 #[.string s] w fun e w' => e = .returned (.int .i64 x) ∧ w' = w := by
  subst hx; exact num13 s w hs

theorem conv_back {w : World} {base g cap : Nat} {l : List UInt8} (h : w.ownsRow base 5 1 (.slice (some ⟨g, 0, none⟩) l.length cap) l.length (bs l)) :
    (convert 24 9 (.slice (some ⟨g, 0, none⟩) l.length cap)).run Try.prog w = .ok (.string ⟨l.toArray⟩) w := by
  refine run_convert_bytes_back w 24 9 5 ⟨g, 0, none⟩ cap l Try.underlying24 Try.underlying5 Try.underlying9 ?_
  intro j hj
  rw [Addr.add_lit, Nat.zero_add, own_at h j hj rfl]
  simp [List.getD, hj]

/-- The digits of 0: the one byte that the second append lays. -/
theorem zero_start {w : World} {base : Nat} {v : Value} (h : w.ownsRow base 5 1 v (0 + 1) ([] ++ [.int .u8 48])) :
    ∃ (r : List UInt8) (g cap : Nat), v = .slice (some ⟨g, 0, none⟩) r.length cap ∧ w.ownsRow base 5 1 (.slice (some ⟨g, 0, none⟩) r.length cap) r.length (bs r) ∧ Hid (val r.reverse = ((0 : Nat) : Int)) ∧ r.length ≤ 19 ∧ 0 < r.length := by
  obtain ⟨g, cap, rfl⟩ := shape h (by omega)
  exact ⟨[48], g, cap, rfl, h, rfl, by decide, by decide⟩

/-- What the second and the third loop hold: the digits r in their row, the bytes l in the buffer's. -/
def St (w wx : World) (base B2 g cap : Nat) (r : List UInt8) (v : Value) (l : List UInt8) : Prop :=
  Below base w wx ∧ wx.ownsRow base 5 1 (.slice (some ⟨g, 0, none⟩) r.length cap) r.length (bs r) ∧ wx.ownsRow B2 5 1 v l.length (bs l) ∧ B2 ≤ wx.heap.size

theorem St.app {w wx w1 : World} {o : Obj} {base B2 g cap : Nat} {r l : List UInt8} {v v' : Value} {x : Int} (h : St w wx base B2 g cap r v l) (hg : g < B2) (hB : base ≤ B2) (c : UInt8) (hc : (c.toNat : Int) = x)
    (ho : w1.ownsRow B2 5 1 v' (l.length + 1) (bs l ++ [.int .u8 x])) (hgr : (wx.alloc o).grownBy w1 v.ownBlock) : St w w1 base B2 g cap r v' (l ++ [c]) := by
  obtain ⟨h1, h2, h3, h4⟩ := h
  refine ⟨below_app h1 (by omega) h3 hB hgr, keep_app h2 h3 hg hgr, own_snoc c hc ho, ?_⟩
  have := hgr.size
  simp at this
  omega

set_option maxHeartbeats 1000000 in
theorem walk (n z : Nat) (w : World) (hn : n < 9223372036854775808) (hz : z ≤ 4096) :
    Calls Try.prog 6 #[.int .i64 n, .int .i64 z] w fun e w' => e = .returned (.bool true) ∧ Below w.heap.size w w' := by
  obtain ⟨i0, hi, hz0, hz1, hz2⟩ := info_parts info5
  by_cases hp : 0 < n
  · go_enter Try.func6, Try.ntmps6
    go_wp2
    go_loopw [5, 6] (fun v m wr => ∃ (r : List UInt8) (M : Nat), m = .int .i64 M ∧ Dec n M r ∧ wr.ownsRow w.heap.size 5 1 v r.length (bs r) ∧ Below w.heap.size w wr) (fun _ m _ => (intOf m).toNat)
    case atStart => exact ⟨[], n, rfl, Dec.start n, World.ownsRow_nil _ _ _ _, Below.refl _ _⟩
    case round =>
      obtain ⟨r, M, rfl, hD, hown, hbel⟩ := hrel
      have HD : Hid (Dec n M r) := hD
      by_cases hM : 0 < M
      · have hsh := hD.short hn hM
        obtain ⟨c, hc⟩ := digit M
        have HC : Hid ((c.toNat : Int) = 48 + (M : Int) % 10) := hc
        have hMn : M < 9223372036854775808 := by
          have h1 := hD.1
          have h2 : M * 1 ≤ M * 10 ^ r.length := Nat.mul_le_mul_left _ (Nat.pow_pos (by decide))
          omega
        have hsz := hbel.size
        clear hD hc
        go_wp2_with (at_builtin; refine wpList_append_own _ rfl _ _ 24 rfl w.heap.size 5 i0 (.int .u8 0) 1 1 Try.underlying24 hi hz0 hz1 hz2 rfl (by decide) _ _ _ rfl (hown.alloc _) ⟨wr.heap.size, 0, none⟩ 1 1 [.int .u8 (48 + (M : Int) % 10)] rfl rfl ?c1 ?c2 ?c3 ?c4 ?c5 ?_)
        case c1 => exact cell_one_new _ _ _
        case c2 => intro u hu; simp at hu; subst hu; rfl
        case c3 => unfold maxLen; omega
        case c4 => omega
        case c5 => simp; omega
        intro v' w1 hown' hgrow _
        have hO := own_snoc c HC.out hown'
        have hB := below_app hbel hsz hown (Nat.le_refl _) hgrow
        have HS : Hid (Dec n (M / 10) (r ++ [c])) := HD.out.step hn hM c HC.out
        clear hown' hgrow hown hbel
        go_wp2
        go_roundw
        case rel => exact ⟨r ++ [c], M / 10, by go_num, HS.out, hO, hB⟩
        case measure => simp [intOf]; omega
      · obtain rfl : M = 0 := by omega
        have HV : Hid (val r.reverse = (n : Int)) := hD.done
        have hr19 : r.length ≤ 19 := hD.2.2
        have hr0 : 0 < r.length := by
          rcases Nat.eq_zero_or_pos r.length with h | h
          · have e : r = [] := List.eq_nil_of_length_eq_zero h
            have := hD.1
            rw [e] at this
            simp [val] at this
            omega
          · exact h
        obtain ⟨g, cap, hv⟩ := shape hown hr0
        rw [hv] at hown ⊢
        have hsz := hbel.size
        clear hD HD hv hM
        go_wp2_with (at_make; refine wpList_make_own _ rfl _ _ 24 rfl wr.heap.size 5 i0 (.int .u8 0) 1 Try.underlying24 hi hz0 hz1 _ _ _ (z + r.length + 1) rfl rfl (by omega) (by rw [hz2]; omega) (by unfold maxLen; omega) (by omega) ?_; intro wb hbuf hgb)
        obtain ⟨B2, hB2⟩ : ∃ B2, B2 = wr.heap.size := ⟨_, rfl⟩
        have hg2 : g < B2 := by rw [hB2]; exact (hown.lt g rfl).2
        have hBB : w.heap.size ≤ B2 := by rw [hB2]; exact hsz
        have S0 : St w wb w.heap.size B2 g cap r (.slice (some ⟨wr.heap.size, 0, none⟩) 0 (z + r.length + 1)) [] := by
          refine ⟨hbel.grown hgb hsz (by simp), hown.kept hgb (Or.inr (by simp [Value.ownBlock])), by rw [hB2]; exact hbuf, ?_⟩
          have := hgb.size
          omega
        clear hB2 hbel hown hbuf hgb hsz
        go_loopw [7, 8] (fun v i wx => ∃ k : Nat, k ≤ z ∧ i = .int .i64 k ∧ St w wx w.heap.size B2 g cap r v (List.replicate k 48)) (fun _ i _ => z - (intOf i).toNat)
        case atStart => exact ⟨0, Nat.zero_le _, rfl, S0⟩
        case round =>
          clear S0
          obtain ⟨k, hk, rfl, hS⟩ := hrel
          have hsw := hS.2.2.2
          by_cases hlt : k < z
          · go_wp2_with (at_builtin; refine wpList_append_own _ rfl _ _ 24 rfl B2 5 i0 (.int .u8 0) 1 1 Try.underlying24 hi hz0 hz1 hz2 rfl (by decide) _ _ _ rfl (hS.2.2.1.alloc _) ⟨wr.heap.size, 0, none⟩ 1 1 [.int .u8 48] rfl rfl (cell_one_new _ _ _) (by intro u hu; simp at hu; subst hu; rfl) (by simp [maxLen]; omega) (by simp; omega) (by simp; omega) ?_; intro v' w1 hown' hgrow _)
            have HS := hS.app hg2 hBB 48 rfl hown' hgrow
            clear hown' hgrow hS
            go_wp2
            go_roundw
            case rel => exact ⟨k + 1, by omega, by go_num, by rw [List.replicate_succ']; exact HS⟩
            case measure => simp [intOf]; omega
          · obtain rfl : k = z := by omega
            go_wp2
            go_loopw [7, 9] (fun v i wx => ∃ m : Nat, m ≤ r.length ∧ i = .int .i64 ((m : Int) - 1) ∧ St w wx w.heap.size B2 g cap r v (List.replicate k 48 ++ (r.drop m).reverse)) (fun _ i _ => (intOf i + 1).toNat)
            case atStart => exact ⟨r.length, Nat.le_refl _, rfl, by rw [List.drop_length, List.reverse_nil, List.append_nil]; exact hS⟩
            case round =>
              clear hS hsw
              obtain ⟨m, hm, rfl, hS⟩ := hrel
              have hsw := hS.2.2.2
              cases m with
              | zero =>
                rw [List.drop_zero] at hS
                obtain ⟨l, hl⟩ : ∃ l, l = List.replicate k 48 ++ r.reverse := ⟨_, rfl⟩
                rw [← hl] at hS
                have hll : l.length = k + r.length := by rw [hl]; simp
                have HL : Hid (wrap64 (val (⟨l.toArray⟩ : ByteArray).data.toList) = (n : Int)) := by
                  show wrap64 (val l) = _
                  rw [hl, val_zeros, HV.out]
                  exact wrap_of _ (by omega) (by omega)
                obtain ⟨g2, cap2, hv2⟩ := shape hS.2.2.1 (by omega)
                rw [hv2] at hS ⊢
                have hcv := conv_back hS.2.2.1
                have hls : (⟨l.toArray⟩ : ByteArray).size ≤ maxLen := by
                  show l.toArray.size ≤ maxLen
                  simp [maxLen]; omega
                have HLS : Hid ((⟨l.toArray⟩ : ByteArray).size ≤ maxLen) := hls
                have HBl := hS.1
                clear hl hll hv2 hls hS HV
                go_wp2_with fail
                refine (num13' ⟨l.toArray⟩ (n : Int) _ HLS.out HL.out).mono ?_
                rintro e w9 ⟨rfl, hw9⟩
                subst hw9
                go_wp2
                go_ret
                exact ⟨rfl, HBl⟩
              | succ m =>
                rw [show ((m + 1 : Nat) : Int) - 1 = (m : Int) by omega]
                obtain ⟨c, hc⟩ : ∃ c, c = r.getD m 0 := ⟨_, rfl⟩
                have hcell : wr.cell? ⟨g, m, none⟩ = some (.int .u8 (c.toNat : Int)) := by rw [hc]; exact own_at hS.2.1 m (by omega) rfl
                have HC : Hid (c = r.getD m 0) := hc
                clear hc
                go_wp2_with (at_builtin; refine wpList_append_own _ rfl _ _ 24 rfl B2 5 i0 (.int .u8 0) 1 1 Try.underlying24 hi hz0 hz1 hz2 rfl (by decide) _ _ _ rfl (hS.2.2.1.alloc _) ⟨wr.heap.size, 0, none⟩ 1 1 [.int .u8 (c.toNat : Int)] rfl rfl (cell_one_new _ _ _) (by intro u hu; simp at hu; subst hu; rfl) (by simp [maxLen]; omega) (by simp; omega) (by simp; omega) ?_; intro v' w1 hown' hgrow _)
                have HS : St w w1 w.heap.size B2 g cap r v' (List.replicate k 48 ++ (r.drop m).reverse) := by
                  rw [drop_rev r m (by omega), ← List.append_assoc, ← HC.out]
                  exact hS.app hg2 hBB c rfl hown' hgrow
                clear hown' hgrow hS hcell
                go_wp2
                go_roundw
                case rel => exact ⟨m, by omega, rfl, HS⟩
                case measure => simp [intOf]
  · obtain rfl : n = 0 := by omega
    go_enter Try.func6, Try.ntmps6
    go_wp2
    refine wp_loop_rounds 1 ?_
    rw [rounds_succ]
    go_wp2_with (first | (at_builtin; refine wpList_append_own _ rfl _ _ 24 rfl w.heap.size 5 i0 (.int .u8 0) 1 1 Try.underlying24 hi hz0 hz1 hz2 rfl (by decide) (.slice none 0 0) 0 [] rfl (World.ownsRow_nil _ _ _ _) ⟨w.heap.size, 0, none⟩ 1 1 [.int .u8 48] rfl rfl (cell_one_new _ _ _) (by intro u hu; simp at hu; subst hu; rfl) (by unfold maxLen; omega) (by omega) (by simp) ?_; intro v' wr hown' hgrow _; obtain ⟨r, g, cap, hv, hown, HV, hr19, hr0⟩ := zero_start hown'; rw [hv]; clear hown' hv) | (at_make; refine wpList_make_own _ rfl _ _ 24 rfl wr.heap.size 5 i0 (.int .u8 0) 1 Try.underlying24 hi hz0 hz1 _ _ _ (z + r.length + 1) rfl rfl (by omega) (by rw [hz2]; omega) (by unfold maxLen; omega) (by omega) ?_; intro wb hbuf hgb))
    have hbel : Below w.heap.size w wr := ((Below.refl _ _).alloc (Nat.le_refl _) _).grown hgrow (by simp) (by simp [Value.ownBlock])
    have hsz := hbel.size
    clear hgrow
    obtain ⟨B2, hB2⟩ : ∃ B2, B2 = wr.heap.size := ⟨_, rfl⟩
    have hg2 : g < B2 := by rw [hB2]; exact (hown.lt g rfl).2
    have hBB : w.heap.size ≤ B2 := by rw [hB2]; exact hsz
    have S0 : St w wb w.heap.size B2 g cap r (.slice (some ⟨wr.heap.size, 0, none⟩) 0 (z + r.length + 1)) [] := by
      refine ⟨hbel.grown hgb hsz (by simp), hown.kept hgb (Or.inr (by simp [Value.ownBlock])), by rw [hB2]; exact hbuf, ?_⟩
      have := hgb.size
      omega
    clear hB2 hbel hown hbuf hgb hsz
    go_loopw [7, 8] (fun v i wx => ∃ k : Nat, k ≤ z ∧ i = .int .i64 k ∧ St w wx w.heap.size B2 g cap r v (List.replicate k 48)) (fun _ i _ => z - (intOf i).toNat)
    case atStart => exact ⟨0, Nat.zero_le _, rfl, S0⟩
    case round =>
      clear S0
      obtain ⟨k, hk, rfl, hS⟩ := hrel
      have hsw := hS.2.2.2
      by_cases hlt : k < z
      · go_wp2_with (at_builtin; refine wpList_append_own _ rfl _ _ 24 rfl B2 5 i0 (.int .u8 0) 1 1 Try.underlying24 hi hz0 hz1 hz2 rfl (by decide) _ _ _ rfl (hS.2.2.1.alloc _) ⟨wr.heap.size, 0, none⟩ 1 1 [.int .u8 48] rfl rfl (cell_one_new _ _ _) (by intro u hu; simp at hu; subst hu; rfl) (by simp [maxLen]; omega) (by simp; omega) (by simp; omega) ?_; intro v' w1 hown' hgrow _)
        have HS := hS.app hg2 hBB 48 rfl hown' hgrow
        clear hown' hgrow hS
        go_wp2
        go_roundw
        case rel => exact ⟨k + 1, by omega, by go_num, by rw [List.replicate_succ']; exact HS⟩
        case measure => simp [intOf]; omega
      · obtain rfl : k = z := by omega
        go_wp2
        go_loopw [7, 9] (fun v i wx => ∃ m : Nat, m ≤ r.length ∧ i = .int .i64 ((m : Int) - 1) ∧ St w wx w.heap.size B2 g cap r v (List.replicate k 48 ++ (r.drop m).reverse)) (fun _ i _ => (intOf i + 1).toNat)
        case atStart => exact ⟨r.length, Nat.le_refl _, rfl, by rw [List.drop_length, List.reverse_nil, List.append_nil]; exact hS⟩
        case round =>
          clear hS hsw
          obtain ⟨m, hm, rfl, hS⟩ := hrel
          have hsw := hS.2.2.2
          cases m with
          | zero =>
            rw [List.drop_zero] at hS
            obtain ⟨l, hl⟩ : ∃ l, l = List.replicate k 48 ++ r.reverse := ⟨_, rfl⟩
            rw [← hl] at hS
            have hll : l.length = k + r.length := by rw [hl]; simp
            have HL : Hid (wrap64 (val (⟨l.toArray⟩ : ByteArray).data.toList) = ((0 : Nat) : Int)) := by
              show wrap64 (val l) = _
              rw [hl, val_zeros, HV.out]
              exact wrap_of _ (by omega) (by omega)
            obtain ⟨g2, cap2, hv2⟩ := shape hS.2.2.1 (by omega)
            rw [hv2] at hS ⊢
            have hcv := conv_back hS.2.2.1
            have hls : (⟨l.toArray⟩ : ByteArray).size ≤ maxLen := by
              show l.toArray.size ≤ maxLen
              simp [maxLen]; omega
            have HLS : Hid ((⟨l.toArray⟩ : ByteArray).size ≤ maxLen) := hls
            have HBl := hS.1
            clear hl hll hv2 hls hS HV
            go_wp2_with fail
            refine (num13' ⟨l.toArray⟩ ((0 : Nat) : Int) _ HLS.out HL.out).mono ?_
            rintro e w9 ⟨rfl, hw9⟩
            subst hw9
            go_wp2
            go_ret
            exact ⟨rfl, HBl⟩
          | succ m =>
            rw [show ((m + 1 : Nat) : Int) - 1 = (m : Int) by omega]
            obtain ⟨c, hc⟩ : ∃ c, c = r.getD m 0 := ⟨_, rfl⟩
            have hcell : wr.cell? ⟨g, m, none⟩ = some (.int .u8 (c.toNat : Int)) := by rw [hc]; exact own_at hS.2.1 m (by omega) rfl
            have HC : Hid (c = r.getD m 0) := hc
            clear hc
            go_wp2_with (at_builtin; refine wpList_append_own _ rfl _ _ 24 rfl B2 5 i0 (.int .u8 0) 1 1 Try.underlying24 hi hz0 hz1 hz2 rfl (by decide) _ _ _ rfl (hS.2.2.1.alloc _) ⟨wr.heap.size, 0, none⟩ 1 1 [.int .u8 (c.toNat : Int)] rfl rfl (cell_one_new _ _ _) (by intro u hu; simp at hu; subst hu; rfl) (by simp [maxLen]; omega) (by simp; omega) (by simp; omega) ?_; intro v' w1 hown' hgrow _)
            have HS : St w w1 w.heap.size B2 g cap r v' (List.replicate k 48 ++ (r.drop m).reverse) := by
              rw [drop_rev r m (by omega), ← List.append_assoc, ← HC.out]
              exact hS.app hg2 hBB c rfl hown' hgrow
            clear hown' hgrow hS hcell
            go_wp2
            go_roundw
            case rel => exact ⟨m, by omega, rfl, HS⟩
            case measure => simp [intOf]

theorem walk_neg (a0 a1 : Int) (w : World) (h : a0 < 0) :
    Calls Try.prog 6 #[.int .i64 a0, .int .i64 a1] w fun e w' => e = .returned (.bool true) ∧ Below w.heap.size w w' := by
  go_enter Try.func6, Try.ntmps6
  go_wp2
  go_ret
  exact ⟨rfl, Below.refl _ _⟩

theorem walk_out (n : Nat) (a1 : Int) (w : World) (h : a1 < 0 ∨ 4096 < a1) :
    Calls Try.prog 6 #[.int .i64 n, .int .i64 a1] w fun e w' => e = .returned (.bool true) ∧ Below w.heap.size w w' := by
  rcases h with h | h
  · go_enter Try.func6, Try.ntmps6
    go_wp2
    go_ret
    exact ⟨rfl, Below.refl _ _⟩
  · have h' : ¬ a1 < 0 := by omega
    go_enter Try.func6, Try.ntmps6
    go_wp2
    go_ret
    exact ⟨rfl, Below.refl _ _⟩
end Go.Proofs.Qxb6600705a.Back
