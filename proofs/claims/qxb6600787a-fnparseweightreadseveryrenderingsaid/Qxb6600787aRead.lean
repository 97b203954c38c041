import Derived.Test.Qxb6600787aWeight
namespace Go.Proofs.Qxb6600787a.Read
open Go.RowKit Parse Weight

/-- The five bytes lie in block B. -/
def Arr (W : World) (B : Nat) (L : List UInt8) : Prop := B < W.heap.size ∧ ∀ j, j < 5 → W.cell? ⟨B, j, none⟩ = some (.int .u8 ((L.getD j 0).toNat : Int))

theorem Arr.later {W W' : World} {B : Nat} {L : List UInt8} (h : Arr W B L) (hb : Below W.heap.size W W') : Arr W' B L :=
  ⟨by have := hb.size; have := h.1; omega, fun j hj => (hb.cell (p := ⟨B, j, none⟩) h.1).trans (h.2 j hj)⟩

/-- 'string(b[:k])'. -/
theorem Arr.conv {W : World} {B : Nat} {L : List UInt8} (h : Arr W B L) (hL : L.length = 5) (k cap : Nat) (hk : k ≤ 5) :
    (convert 26 9 (.slice (some ⟨B, 0, none⟩) k cap)).run Try.prog W = .ok (.string ⟨(L.take k).toArray⟩) W := by
  have e : (L.take k).length = k := by rw [List.length_take, hL]; omega
  have := run_convert_bytes_back (P := Try.prog) W 26 9 5 ⟨B, 0, none⟩ cap (L.take k) Try.underlying26 Try.underlying5 Try.underlying9 (by
    intro j hj
    have hj5 : j < 5 := by omega
    rw [Addr.add_lit, Nat.zero_add, h.2 j hj5]
    have hjL : j < L.length := by omega
    simp [List.getD, hjL])
  rw [e] at this
  exact this

/-- From n on the digits of v are noughts. -/
def Zer (v n : Nat) : Prop := 2 ≤ n ∧ n ≤ 5 ∧ (n ≤ 2 → (v : Int) / 100 % 10 = 0) ∧ (n ≤ 3 → (v : Int) / 10 % 10 = 0) ∧ (n ≤ 4 → (v : Int) % 10 = 0)

theorem Zer.step {v n : Nat} (h : Zer v n) (hn : 2 < n) {c0 c2 c3 c4 : UInt8} (hd : Dig v c0 c2 c3 c4) (h48 : (([c0, 46, c2, c3, c4].getD (n - 1) 0).toNat : Int) = 48) : Zer v (n - 1) := by
  obtain ⟨h1, h2, h3, h4, h5⟩ := h
  obtain ⟨e0, e2, e3, e4⟩ := hd
  rcases (show n = 3 ∨ n = 4 ∨ n = 5 by omega) with rfl | rfl | rfl
  · have : (c2.toNat : Int) = 48 := h48
    exact ⟨by omega, by omega, fun _ => by omega, fun _ => h4 (by omega), fun _ => h5 (by omega)⟩
  · have : (c3.toNat : Int) = 48 := h48
    exact ⟨by omega, by omega, fun h => by omega, fun _ => by omega, fun _ => h5 (by omega)⟩
  · have : (c4.toNat : Int) = 48 := h48
    exact ⟨by omega, by omega, fun h => by omega, fun h => by omega, fun _ => by omega⟩

theorem walk_out (a : Int) (w : World) (h : a < 0 ∨ 1999 < a) :
    Calls Try.prog 6 #[.int .i64 a] w fun e w' => e = .returned (.bool true) ∧ Below w.heap.size w w' := by
  rcases h with h | h
  · go_enter Try.func6, Try.ntmps6
    go_wp2
    go_ret
    exact ⟨rfl, Below.refl _ _⟩
  · have h' : ¬ a < 0 := by omega
    go_enter Try.func6, Try.ntmps6
    go_wp2
    go_ret
    exact ⟨rfl, Below.refl _ _⟩

set_option maxHeartbeats 1000000 in
theorem walk (v : Nat) (w : World) (hv : v ≤ 1999) :
    Calls Try.prog 6 #[.int .i64 v] w fun e w' => e = .returned (.bool true) ∧ Below w.heap.size w w' := by
  have d1 : decide ((v : Int) < 0) = false := by simp
  have d2 : decide (1999 < (v : Int)) = false := by simp; omega
  obtain ⟨c0, c2, c3, c4, hdig⟩ := dig_ex v hv
  obtain ⟨L, hL⟩ : ∃ L, L = [c0, 46, c2, c3, c4] := ⟨_, rfl⟩
  have A0 : Arr (w.alloc (.cells #[.int .u8 (48 + (v : Int) / 1000), .int .u8 46, .int .u8 (48 + (v : Int) / 100 % 10), .int .u8 (48 + (v : Int) / 10 % 10), .int .u8 (48 + (v : Int) % 10)] 29)) w.heap.size L := by
    refine ⟨by simp, ?_⟩
    intro j hj
    rw [hL]
    rcases (show j = 0 ∨ j = 1 ∨ j = 2 ∨ j = 3 ∨ j = 4 by omega) with rfl | rfl | rfl | rfl | rfl
    · simp [← hdig.h0]
    · simp
    · simp [← hdig.h2]
    · simp [← hdig.h3]
    · simp [← hdig.h4]
  have HA0 : Hid (Arr (w.alloc (.cells #[.int .u8 (48 + (v : Int) / 1000), .int .u8 46, .int .u8 (48 + (v : Int) / 100 % 10), .int .u8 (48 + (v : Int) / 10 % 10), .int .u8 (48 + (v : Int) % 10)] 29)) w.heap.size L) := A0
  have HL : Hid (L = [c0, 46, c2, c3, c4]) := hL
  have HDg : Hid (Dig v c0 c2 c3 c4) := hdig
  clear A0 hL hdig
  go_enter Try.func6, Try.ntmps6
  go_wp2
  go_loopw [4] (fun i wx => ∃ n : Nat, i = .int .i64 n ∧ Zer v n ∧ Below w.heap.size w wx ∧ Arr wx w.heap.size L) (fun i _ => (intOf i).toNat)
  case atStart => exact ⟨5, rfl, ⟨by omega, by omega, fun h => by omega, fun h => by omega, fun h => by omega⟩, (Below.refl _ _).alloc (Nat.le_refl _) _, HA0.out⟩
  case round =>
    clear HA0
    obtain ⟨n, rfl, hZ, hB, hA⟩ := hrel
    have hn2 : 2 ≤ n := hZ.1
    have hn5 : n ≤ 5 := hZ.2.1
    have HZ : Hid (Zer v n) := hZ
    clear hZ
    have HL5 : Hid (L.length = 5) := by rw [HL.out]; rfl
    by_cases hgt : 2 < n
    · obtain ⟨u, hu⟩ : ∃ u : Int, u = ((L.getD (n - 1) 0).toNat : Int) := ⟨_, rfl⟩
      have hcell := hA.2 (n - 1) (by omega)
      rw [← hu] at hcell
      have HU : Hid (u = ((L.getD (n - 1) 0).toNat : Int)) := hu
      clear hu
      cases hE : (u == 48)
      · go_wp2
        clear hcell
        go_loopw [5] (fun i wx => ∃ k : Nat, n ≤ k ∧ k ≤ 6 ∧ i = .int .i64 k ∧ Below w.heap.size w wx ∧ Arr wx w.heap.size L) (fun i _ => 6 - (intOf i).toNat)
        case atStart => exact ⟨n, Nat.le_refl _, by omega, rfl, hB, hA⟩
        case round =>
          clear hB hA
          obtain ⟨k, hnk, hk6, rfl, hB, hA⟩ := hrel
          by_cases hk : k ≤ 5
          · have hcv := hA.conv HL5.out k 5 hk
            have PK : Hid (∀ W, Calls Try.prog 15 #[.string ⟨(L.take k).toArray⟩] W fun e w' => e = .returned (.tuple #[.int .i64 v, .bool (decide ((v : Int) ≤ 1000))]) ∧ Below W.heap.size W w') := by
              intro W
              rw [HL.out]
              exact parseK HDg.out hv k (by omega) hk (fun h => HZ.out.2.2.1 (by omega)) (fun h => HZ.out.2.2.2.1 (by omega)) (fun h => HZ.out.2.2.2.2 (by omega)) W
            go_wp2_with fail
            refine (PK.out _).mono ?_
            rintro e w5 ⟨rfl, hb5⟩
            have hB5 := hB.trans (hb5.mono hB.size)
            have hA5 := hA.later hb5
            clear hcv hB hA hb5 PK
            go_wp2
            go_roundw
            case rel => exact ⟨k + 1, by omega, by omega, by go_num, hB5, hA5⟩
            case measure => simp [intOf]; omega
          · obtain rfl : k = 6 := by omega
            go_wp2
            go_ret
            exact ⟨rfl, hB⟩
      · have HZ2 : Hid (Zer v (n - 1)) := by
          refine HZ.out.step hgt HDg.out ?_
          rw [← HL.out, ← HU.out]
          simpa using hE
        go_wp2
        go_roundw
        case rel => exact ⟨n - 1, by go_num, HZ2.out, hB, hA⟩
        case measure => simp [intOf]; omega
    · go_wp2
      go_loopw [5] (fun i wx => ∃ k : Nat, n ≤ k ∧ k ≤ 6 ∧ i = .int .i64 k ∧ Below w.heap.size w wx ∧ Arr wx w.heap.size L) (fun i _ => 6 - (intOf i).toNat)
      case atStart => exact ⟨n, Nat.le_refl _, by omega, rfl, hB, hA⟩
      case round =>
        clear hB hA
        obtain ⟨k, hnk, hk6, rfl, hB, hA⟩ := hrel
        by_cases hk : k ≤ 5
        · have hcv := hA.conv HL5.out k 5 hk
          have PK : Hid (∀ W, Calls Try.prog 15 #[.string ⟨(L.take k).toArray⟩] W fun e w' => e = .returned (.tuple #[.int .i64 v, .bool (decide ((v : Int) ≤ 1000))]) ∧ Below W.heap.size W w') := by
            intro W
            rw [HL.out]
            exact parseK HDg.out hv k (by omega) hk (fun h => HZ.out.2.2.1 (by omega)) (fun h => HZ.out.2.2.2.1 (by omega)) (fun h => HZ.out.2.2.2.2 (by omega)) W
          go_wp2_with fail
          refine (PK.out _).mono ?_
          rintro e w5 ⟨rfl, hb5⟩
          have hB5 := hB.trans (hb5.mono hB.size)
          have hA5 := hA.later hb5
          clear hcv hB hA hb5 PK
          go_wp2
          go_roundw
          case rel => exact ⟨k + 1, by omega, by omega, by go_num, hB5, hA5⟩
          case measure => simp [intOf]; omega
        · obtain rfl : k = 6 := by omega
          obtain rfl : n = 2 := by omega
          have hcv := hA.conv HL5.out 1 5 (by omega)
          have PK : Hid (∀ W, Calls Try.prog 15 #[.string ⟨(L.take 1).toArray⟩] W fun e w' => e = .returned (.tuple #[.int .i64 v, .bool (decide ((v : Int) ≤ 1000))]) ∧ Below W.heap.size W w') := by
            intro W
            rw [HL.out]
            exact parse1 HDg.out hv (HZ.out.2.2.1 (by omega)) (HZ.out.2.2.2.1 (by omega)) (HZ.out.2.2.2.2 (by omega)) W
          go_wp2_with fail
          refine (PK.out _).mono ?_
          rintro e w5 ⟨rfl, hb5⟩
          have hB5 := hB.trans (hb5.mono hB.size)
          clear hcv hB hA hb5 PK
          go_wp2
          go_ret
          exact ⟨rfl, hB5⟩
end Go.Proofs.Qxb6600787a.Read
