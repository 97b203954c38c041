import Derived.Test.Qxb6600787aRows
import Derived.WalkKit
import Derived.WalkSpells
import Derived.WalkLawsBesides
import Derived.Lib.IndexBytes
namespace Go.Proofs.Qxb6600787a.Parse
open Go.RowKit

/-- The weight and the scale behind the digits ds, begun at b. -/
def stt (b : Int) (ds : List UInt8) : Int × Int := ds.foldl (fun p c => (p.1 + ((c.toNat : Int) - 48) * p.2, p.2 / 10)) (b, 100)

theorem stt_snoc (b : Int) (l : List UInt8) (c : UInt8) : stt b (l ++ [c]) = ((stt b l).1 + ((c.toNat : Int) - 48) * (stt b l).2, (stt b l).2 / 10) := by
  simp [stt]

def digit (c : UInt8) : Prop := 48 ≤ c.toNat ∧ c.toNat ≤ 57

theorem digit_mul {d t : Int} (h0 : 0 ≤ d) (h9 : d ≤ 9) (t0 : 0 ≤ t) : 0 ≤ d * t ∧ d * t ≤ 9 * t :=
  ⟨Int.mul_nonneg h0 t0, Int.mul_le_mul_of_nonneg_right h9 t0⟩

/-- No wrap: bounds by the number of digits taken. -/
theorem stt_bound (b : Int) (h0 : 0 ≤ b) (h1 : b ≤ 1000) (l : List UInt8) (hd : ∀ c ∈ l, digit c) : ∀ k, k ≤ l.length → 0 ≤ (stt b (l.take k)).1 ∧ (stt b (l.take k)).1 ≤ 1000 + 900 * k ∧ 0 ≤ (stt b (l.take k)).2 ∧ (stt b (l.take k)).2 ≤ 100 := by
  intro k
  induction k with
  | zero => intro _; refine ⟨?_, ?_, ?_, ?_⟩ <;> simp [stt] <;> omega
  | succ k ih =>
    intro hk
    obtain ⟨a1, a2, a3, a4⟩ := ih (by omega)
    have hkl : k < l.length := by omega
    rw [List.take_succ_eq_append_getElem hkl, stt_snoc]
    obtain ⟨d1, d2⟩ := hd l[k] (List.getElem_mem hkl)
    have hm := digit_mul (d := (l[k].toNat : Int) - 48) (t := (stt b (l.take k)).2) (by omega) (by omega) a3
    generalize ((l[k].toNat : Int) - 48) * (stt b (l.take k)).2 = q at *
    refine ⟨?_, ?_, ?_, ?_⟩ <;> simp only <;> omega

theorem below_app2 {w : World} {o : Obj} : Below w.heap.size w (w.alloc o).drew := ((Below.refl _ _).alloc (Nat.le_refl _) _).drew

theorem int_eq {k : IntKind} {a b : Int} (h : a = b) : Value.int k a = Value.int k b := by rw [h]

theorem row_cell (w : World) (t : ByteArray) (cap k : Nat) (fr : Nat × Nat) (hk : k < t.size) : (w.alloc (.cells (bytesRow t cap) 5 fr)).drew.cell? ⟨w.heap.size, k, none⟩ = some (.int .u8 (t[k].toNat : Int)) := by
  show (w.alloc (.cells (bytesRow t cap) 5 fr)).cell? ⟨w.heap.size, k, none⟩ = _
  rw [World.cell?_alloc_mark, bytesRow_at t cap k hk]
  rfl

/-- parseWeight on a string of two to five bytes, well formed. -/
theorem parse21 (s : ByteArray) (b : Int) (w : World) (hs2 : 2 ≤ s.size) (hs5 : s.size ≤ 5) (hc : ((s[0].toNat : Int) = 48 ∧ b = 0) ∨ ((s[0].toNat : Int) = 49 ∧ b = 1000)) (hdot : ((s[1].toNat : Int) != 46) = false) (hd : ∀ c ∈ s.data.toList.drop 2, digit c) :
    Calls Try.prog 21 #[.string s] w fun e w' => e = .returned (.tuple #[.int .i64 (stt b (s.data.toList.drop 2)).1, .bool (decide ((stt b (s.data.toList.drop 2)).1 ≤ 1000))]) ∧ Below w.heap.size w w' := by
  have hb := fun w s => run_bytes_of_string (P := Try.prog) w 9 26 5 s Try.underlying9 Try.underlying26 Try.underlying5
  have hemp : s.toList.isEmpty = false := by
    rw [Lib.toList_data, Bool.eq_false_iff]
    intro h
    rw [List.isEmpty_iff] at h
    have e := Lib.size_eq s
    rw [h] at e
    simp only [List.length_nil] at e
    omega
  have d5 : decide (5 < (s.size : Int)) = false := by simp; omega
  have hbb : 0 ≤ b ∧ b ≤ 1000 := by omega
  have hD : (s.data.toList.drop 2).length = s.size - 2 := by rw [List.length_drop, ← Lib.size_eq]
  have HB : Hid (∀ k, k ≤ (s.data.toList.drop 2).length → 0 ≤ (stt b ((s.data.toList.drop 2).take k)).1 ∧ (stt b ((s.data.toList.drop 2).take k)).1 ≤ 1000 + 900 * k ∧ 0 ≤ (stt b ((s.data.toList.drop 2).take k)).2 ∧ (stt b ((s.data.toList.drop 2).take k)).2 ≤ 100) := stt_bound b hbb.1 hbb.2 _ hd
  have HCell : Hid (∀ k, k < s.size - 2 → ∀ cap fr, (w.alloc (.cells (bytesRow (s.extract 2 s.size) cap) 5 fr)).drew.cell? ⟨w.heap.size, k, none⟩ = some (.int .u8 (((s.data.toList.drop 2).getD k 0).toNat : Int))) := by
    intro k hk cap fr
    have hk' : k < (s.extract 2 s.size).size := by rw [ByteArray.size_extract]; omega
    rw [row_cell w _ cap k fr hk']
    have e : (s.extract 2 s.size).data.toList = s.data.toList.drop 2 := Lib.extract_to_end s 2
    rw [← e]
    have hk2 : k < (s.extract 2 s.size).data.toList.length := by rw [← Lib.size_eq]; exact hk'
    simp only [List.getD, List.getElem?_eq_getElem hk2, Option.getD_some]
    rfl
  have HDig : Hid (∀ k, k < s.size - 2 → digit ((s.data.toList.drop 2).getD k 0)) := by
    intro k hk
    have hk2 : k < (s.data.toList.drop 2).length := by rw [hD]; exact hk
    refine hd _ ?_
    simp only [List.getD, List.getElem?_eq_getElem hk2, Option.getD_some]
    exact List.getElem_mem hk2
  have HD : Hid ((s.data.toList.drop 2).length = s.size - 2) := hD
  clear hD hbb hd
  generalize s.data.toList.drop 2 = D at *
  rcases hc with ⟨hc, rfl⟩ | ⟨hc, rfl⟩
  · have h1 : ((s[0].toNat : Int) != 48) = false := by simp [hc]
    have HC : Hid _ := hc
    clear hc
    go_enter Try.func21, Try.ntmps21
    go_wp2
    go_loop [2, 4, 40] (fun p c i => ∃ k : Nat, k ≤ s.size - 2 ∧ i = .int .i64 k ∧ p = .int .i64 (stt 0 (D.take k)).1 ∧ c = .int .i64 (stt 0 (D.take k)).2) (fun _ _ i => s.size - 2 - (intOf i).toNat)
    case atStart => exact ⟨0, Nat.zero_le _, rfl, int_eq (by rw [HC.out]; rfl), rfl⟩
    case round =>
      obtain ⟨k, hk, rfl, rfl, rfl⟩ := hrel
      obtain ⟨b1, b2, b3, b4⟩ := HB.out k (by rw [HD.out]; exact hk)
      by_cases hlt : k < s.size - 2
      · obtain ⟨c, hc⟩ : ∃ c, c = D.getD k 0 := ⟨_, rfl⟩
        have hcell := HCell.out k hlt
        rw [← hc] at hcell
        have hcd := HDig.out k hlt
        rw [← hc] at hcd
        obtain ⟨g1, g2⟩ := hcd
        have e1 : D.take (k + 1) = D.take k ++ [c] := by
          rw [List.take_succ_eq_append_getElem (by rw [HD.out]; exact hlt), hc]
          simp [List.getD, show k < D.length by rw [HD.out]; exact hlt]
        have HS : Hid (stt 0 (D.take (k + 1)) = ((stt 0 (D.take k)).1 + ((c.toNat : Int) - 48) * (stt 0 (D.take k)).2, (stt 0 (D.take k)).2 / 10)) := by rw [e1]; exact stt_snoc _ _ _
        have hm := digit_mul (d := (c.toNat : Int) - 48) (t := (stt 0 (D.take k)).2) (by omega) (by omega) b3
        obtain ⟨m1, m2⟩ := hm
        have hk3 : k ≤ 3 := by omega
        generalize (stt 0 (D.take k)).1 = P at *
        generalize (stt 0 (D.take k)).2 = Q at *
        clear hc e1
        go_wp2
        go_round
        case rel => exact ⟨k + 1, by omega, by go_num, int_eq (by rw [HS.out]), int_eq (by rw [HS.out])⟩
        case measure => simp [intOf]; omega
      · obtain rfl : k = s.size - 2 := by omega
        have e2 : D.take (s.size - 2) = D := List.take_of_length_le (by rw [HD.out]; exact Nat.le_refl _)
        rw [e2]
        clear e2 b1 b2 b3 b4
        go_wp2
        go_ret2
        exact ⟨rfl, below_app2⟩
  · have h1 : ((s[0].toNat : Int) != 48) = true := by rw [hc]; decide
    have h2 : ((s[0].toNat : Int) != 49) = false := by rw [hc]; decide
    have HC : Hid _ := hc
    clear hc
    go_enter Try.func21, Try.ntmps21
    go_wp2
    go_loop [2, 4, 40] (fun p c i => ∃ k : Nat, k ≤ s.size - 2 ∧ i = .int .i64 k ∧ p = .int .i64 (stt 1000 (D.take k)).1 ∧ c = .int .i64 (stt 1000 (D.take k)).2) (fun _ _ i => s.size - 2 - (intOf i).toNat)
    case atStart => exact ⟨0, Nat.zero_le _, rfl, int_eq (by rw [HC.out]; rfl), rfl⟩
    case round =>
      obtain ⟨k, hk, rfl, rfl, rfl⟩ := hrel
      obtain ⟨b1, b2, b3, b4⟩ := HB.out k (by rw [HD.out]; exact hk)
      by_cases hlt : k < s.size - 2
      · obtain ⟨c, hc⟩ : ∃ c, c = D.getD k 0 := ⟨_, rfl⟩
        have hcell := HCell.out k hlt
        rw [← hc] at hcell
        have hcd := HDig.out k hlt
        rw [← hc] at hcd
        obtain ⟨g1, g2⟩ := hcd
        have e1 : D.take (k + 1) = D.take k ++ [c] := by
          rw [List.take_succ_eq_append_getElem (by rw [HD.out]; exact hlt), hc]
          simp [List.getD, show k < D.length by rw [HD.out]; exact hlt]
        have HS : Hid (stt 1000 (D.take (k + 1)) = ((stt 1000 (D.take k)).1 + ((c.toNat : Int) - 48) * (stt 1000 (D.take k)).2, (stt 1000 (D.take k)).2 / 10)) := by rw [e1]; exact stt_snoc _ _ _
        have hm := digit_mul (d := (c.toNat : Int) - 48) (t := (stt 1000 (D.take k)).2) (by omega) (by omega) b3
        obtain ⟨m1, m2⟩ := hm
        have hk3 : k ≤ 3 := by omega
        generalize (stt 1000 (D.take k)).1 = P at *
        generalize (stt 1000 (D.take k)).2 = Q at *
        clear hc e1
        go_wp2
        go_round
        case rel => exact ⟨k + 1, by omega, by go_num, int_eq (by rw [HS.out]), int_eq (by rw [HS.out])⟩
        case measure => simp [intOf]; omega
      · obtain rfl : k = s.size - 2 := by omega
        have e2 : D.take (s.size - 2) = D := List.take_of_length_le (by rw [HD.out]; exact Nat.le_refl _)
        rw [e2]
        clear e2 b1 b2 b3 b4
        go_wp2
        go_ret2
        exact ⟨rfl, below_app2⟩
end Go.Proofs.Qxb6600787a.Parse
