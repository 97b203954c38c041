import Derived.Test.Qxb6600787aParse
namespace Go.Proofs.Qxb6600787a.Weight
open Go.RowKit Parse

/-- parseWeight on one byte. -/
theorem parse21_one (s : ByteArray) (b : Int) (w : World) (hp : 0 < s.size) (hs : s.size ≤ 1) (hc : ((s[0].toNat : Int) = 48 ∧ b = 0) ∨ ((s[0].toNat : Int) = 49 ∧ b = 1000)) :
    Calls Try.prog 21 #[.string s] w fun e w' => e = .returned (.tuple #[.int .i64 b, .bool true]) ∧ Below w.heap.size w w' := by
  have hemp : s.toList.isEmpty = false := by
    rw [Lib.toList_data, Bool.eq_false_iff]
    intro h
    rw [List.isEmpty_iff] at h
    have e := Lib.size_eq s
    rw [h] at e
    simp only [List.length_nil] at e
    omega
  have d5 : decide (5 < (s.size : Int)) = false := by simp; omega
  have d1 : ((s.size : Int) == 1) = true := by simp; omega
  rcases hc with ⟨hc, rfl⟩ | ⟨hc, rfl⟩
  · have h1 : ((s[0].toNat : Int) != 48) = false := by rw [hc]; decide
    have HC : Hid ((s[0].toNat : Int) = 48) := hc
    clear hc
    go_enter Try.func21, Try.ntmps21
    go_wp2
    go_ret2
    refine ⟨?_, Below.refl _ _⟩
    simp [HC.out]
  · have h1 : ((s[0].toNat : Int) != 48) = true := by rw [hc]; decide
    have h2 : ((s[0].toNat : Int) != 49) = false := by rw [hc]; decide
    have HC : Hid ((s[0].toNat : Int) = 49) := hc
    clear hc
    go_enter Try.func21, Try.ntmps21
    go_wp2
    go_ret2
    refine ⟨?_, Below.refl _ _⟩
    simp [HC.out]

/-- ZZParseWeight hands on what parseWeight answers. -/
theorem wrap15 (s : ByteArray) (x : Int) (q : Bool) (w : World) (h : Calls Try.prog 21 #[.string s] w fun e w' => e = .returned (.tuple #[.int .i64 x, .bool q]) ∧ Below w.heap.size w w') :
    Calls Try.prog 15 #[.string s] w fun e w' => e = .returned (.tuple #[.int .i64 x, .bool q]) ∧ Below w.heap.size w w' := by
  have H : Hid (Calls Try.prog 21 #[.string s] w fun e w' => e = .returned (.tuple #[.int .i64 x, .bool q]) ∧ Below w.heap.size w w') := h
  clear h
  go_enter Try.func15, Try.ntmps15
  go_wp2_with fail
  refine H.out.mono ?_
  rintro e w' ⟨rfl, hb⟩
  go_wp2
  go_ret2
  exact ⟨rfl, hb⟩

/-- The bytes of v, written d.ddd. -/
structure Dig (v : Nat) (c0 c2 c3 c4 : UInt8) : Prop where
  h0 : (c0.toNat : Int) = 48 + (v : Int) / 1000
  h2 : (c2.toNat : Int) = 48 + (v : Int) / 100 % 10
  h3 : (c3.toNat : Int) = 48 + (v : Int) / 10 % 10
  h4 : (c4.toNat : Int) = 48 + (v : Int) % 10

theorem byte_of (n : Nat) (h : n ≤ 9) : ∃ c : UInt8, (c.toNat : Int) = 48 + (n : Int) := by
  refine ⟨UInt8.ofNat (48 + n), ?_⟩
  rw [UInt8.toNat_ofNat']
  omega

theorem dig_ex (v : Nat) (hv : v ≤ 1999) : ∃ c0 c2 c3 c4 : UInt8, Dig v c0 c2 c3 c4 := by
  obtain ⟨c0, h0⟩ := byte_of (v / 1000) (by omega)
  obtain ⟨c2, h2⟩ := byte_of (v / 100 % 10) (by omega)
  obtain ⟨c3, h3⟩ := byte_of (v / 10 % 10) (by omega)
  obtain ⟨c4, h4⟩ := byte_of (v % 10) (by omega)
  exact ⟨c0, c2, c3, c4, ⟨by rw [h0]; omega, by rw [h2]; omega, by rw [h3]; omega, by rw [h4]; omega⟩⟩

theorem Dig.lead {v : Nat} {c0 c2 c3 c4 : UInt8} (h : Dig v c0 c2 c3 c4) (hv : v ≤ 1999) : ∃ b : Int, (((c0.toNat : Int) = 48 ∧ b = 0) ∨ ((c0.toNat : Int) = 49 ∧ b = 1000)) ∧ b + (v : Int) % 1000 = v := by
  have := h.h0
  by_cases hlt : v < 1000
  · exact ⟨0, Or.inl ⟨by omega, rfl⟩, by omega⟩
  · exact ⟨1000, Or.inr ⟨by omega, rfl⟩, by omega⟩

theorem Dig.digs {v : Nat} {c0 c2 c3 c4 : UInt8} (h : Dig v c0 c2 c3 c4) : digit c2 ∧ digit c3 ∧ digit c4 := by
  obtain ⟨_, h2, h3, h4⟩ := h
  unfold digit
  omega

/-- b[:k], k from 2 to 5, the digits from k on being noughts: it parses to v. -/
theorem parseK {v : Nat} {c0 c2 c3 c4 : UInt8} (h : Dig v c0 c2 c3 c4) (hv : v ≤ 1999) (k : Nat) (hk2 : 2 ≤ k) (hk5 : k ≤ 5) (z2 : k ≤ 2 → (v : Int) / 100 % 10 = 0) (z3 : k ≤ 3 → (v : Int) / 10 % 10 = 0) (z4 : k ≤ 4 → (v : Int) % 10 = 0) (w : World) :
    Calls Try.prog 15 #[.string ⟨([c0, 46, c2, c3, c4].take k).toArray⟩] w fun e w' => e = .returned (.tuple #[.int .i64 v, .bool (decide ((v : Int) ≤ 1000))]) ∧ Below w.heap.size w w' := by
  obtain ⟨b, hb, hbv⟩ := h.lead hv
  obtain ⟨g2, g3, g4⟩ := h.digs
  have e2 := h.h2
  have e3 := h.h3
  have e4 := h.h4
  apply wrap15
  rcases (show k = 2 ∨ k = 3 ∨ k = 4 ∨ k = 5 by omega) with rfl | rfl | rfl | rfl
  · have f2 := z2 (by omega)
    have f3 := z3 (by omega)
    have f4 := z4 (by omega)
    have hv' : (stt b ([] : List UInt8)).1 = (v : Int) := by simp [stt]; omega
    have P := parse21 ⟨#[c0, 46]⟩ b w (by show 2 ≤ 2; omega) (by show 2 ≤ 5; omega) hb rfl (by intro c hc; simp at hc)
    simp only [List.drop_succ_cons, List.drop_nil] at P
    rw [hv'] at P
    exact P
  · have f3 := z3 (by omega)
    have f4 := z4 (by omega)
    have hv' : (stt b [c2]).1 = (v : Int) := by simp [stt]; omega
    have P := parse21 ⟨#[c0, 46, c2]⟩ b w (by show 2 ≤ 3; omega) (by show 3 ≤ 5; omega) hb rfl (by intro c hc; simp at hc; subst hc; exact g2)
    simp only [List.drop_succ_cons, List.drop_zero] at P
    rw [hv'] at P
    exact P
  · have f4 := z4 (by omega)
    have hv' : (stt b [c2, c3]).1 = (v : Int) := by simp [stt]; omega
    have P := parse21 ⟨#[c0, 46, c2, c3]⟩ b w (by show 2 ≤ 4; omega) (by show 4 ≤ 5; omega) hb rfl (by intro c hc; simp at hc; rcases hc with rfl | rfl <;> assumption)
    simp only [List.drop_succ_cons, List.drop_zero] at P
    rw [hv'] at P
    exact P
  · have hv' : (stt b [c2, c3, c4]).1 = (v : Int) := by simp [stt]; omega
    have P := parse21 ⟨#[c0, 46, c2, c3, c4]⟩ b w (by show 2 ≤ 5; omega) (by show 5 ≤ 5; omega) hb rfl (by intro c hc; simp at hc; rcases hc with rfl | rfl | rfl <;> assumption)
    simp only [List.drop_succ_cons, List.drop_zero] at P
    rw [hv'] at P
    exact P

theorem parse1 {v : Nat} {c0 c2 c3 c4 : UInt8} (h : Dig v c0 c2 c3 c4) (hv : v ≤ 1999) (z2 : (v : Int) / 100 % 10 = 0) (z3 : (v : Int) / 10 % 10 = 0) (z4 : (v : Int) % 10 = 0) (w : World) :
    Calls Try.prog 15 #[.string ⟨([c0, 46, c2, c3, c4].take 1).toArray⟩] w fun e w' => e = .returned (.tuple #[.int .i64 v, .bool (decide ((v : Int) ≤ 1000))]) ∧ Below w.heap.size w w' := by
  obtain ⟨b, hb, hbv⟩ := h.lead hv
  apply wrap15
  have P := parse21_one ⟨#[c0]⟩ b w (by show 0 < 1; omega) (by show 1 ≤ 1; omega) hb
  have e : b = (v : Int) := by omega
  have e' : decide ((v : Int) ≤ 1000) = true := by simp; omega
  rw [e']
  rw [e] at P
  exact P
end Go.Proofs.Qxb6600787a.Weight
