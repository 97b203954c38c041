/-
  The plain mathematics of decimal numbers: no Go in sight.
-/
import Derived.WalkKit
namespace Go.Proofs.Qxb6600705a.Plain
open Go.RowKit

/-- The digit that a byte stands for, as Go reckons 'c - 0x30' on a byte. -/
def dg (c : UInt8) : Int := ((c.toNat : Int) - 48) % 256

/-- What 'number' reckons, exactly: no wrap. -/
def val (l : List UInt8) : Int := l.foldl (fun n c => n * 10 + dg c) 0

theorem val_nil : val [] = 0 := rfl

theorem val_snoc (l : List UInt8) (c : UInt8) : val (l ++ [c]) = val l * 10 + dg c := by
  simp [val]

theorem foldl_val (l : List UInt8) : ∀ n : Int, l.foldl (fun n c => n * 10 + dg c) n = n * 10 ^ l.length + val l := by
  induction l with
  | nil => intro n; simp [val]
  | cons c t ih =>
    intro n
    have e1 : (c :: t).foldl (fun n c => n * 10 + dg c) n = t.foldl (fun n c => n * 10 + dg c) (n * 10 + dg c) := rfl
    have e2 : val (c :: t) = t.foldl (fun n c => n * 10 + dg c) (0 * 10 + dg c) := rfl
    rw [e1, e2, ih, ih, List.length_cons, Int.pow_succ, Int.add_mul, Int.add_mul, Int.zero_mul, Int.zero_mul, Int.zero_add, Int.mul_assoc, Int.mul_comm 10, Int.add_assoc]

theorem val_cons (c : UInt8) (t : List UInt8) : val (c :: t) = dg c * 10 ^ t.length + val t := by
  have e2 : val (c :: t) = t.foldl (fun n c => n * 10 + dg c) (0 * 10 + dg c) := rfl
  rw [e2, foldl_val]; simp

theorem wrap_step (a b : Int) : wrap64 (wrap64 (wrap64 a * 10) + b) = wrap64 (a * 10 + b) := by
  unfold wrap64; omega

theorem wrap_idem (a b : Int) : wrap64 (wrap64 a + wrap64 b) = wrap64 (b + a) := by
  unfold wrap64; omega

theorem wrap_ten (a : Int) : wrap64 (wrap64 a * 10) = wrap64 (a * 10) := by
  unfold wrap64; omega

theorem wrap_mul (a b : Int) : wrap64 (a * wrap64 b) = wrap64 (a * b) := by
  have e : wrap64 b = b - 18446744073709551616 * ((b + 9223372036854775808) / 18446744073709551616) := by
    unfold wrap64; omega
  rw [e, Int.mul_sub, Int.mul_left_comm a 18446744073709551616]
  generalize a * ((b + 9223372036854775808) / 18446744073709551616) = r
  generalize a * b = s
  unfold wrap64; omega

theorem wrap_of (a : Int) (h0 : 0 ≤ a) (h1 : a < 9223372036854775808) : wrap64 a = a := by
  unfold wrap64; omega

/-- Are all bytes decimal digits? -/
def digs (l : List UInt8) : Bool := l.all fun c => decide (48 ≤ c.toNat) && decide (c.toNat ≤ 57)

theorem digs_cons (c : UInt8) (t : List UInt8) : digs (c :: t) = true ↔ (48 ≤ c.toNat ∧ c.toNat ≤ 57) ∧ digs t = true := by
  simp [digs]

theorem dg_of {c : UInt8} (h : 48 ≤ c.toNat ∧ c.toNat ≤ 57) : dg c = (c.toNat : Int) - 48 := by
  unfold dg; omega

theorem pow_pos (n : Nat) : (0 : Int) < 10 ^ n := Int.pow_pos (by decide)

/-- The value of k digits lies below 10^k. -/
theorem val_lt (l : List UInt8) : digs l = true → 0 ≤ val l ∧ val l < 10 ^ l.length := by
  induction l with
  | nil => intro _; simp [val]
  | cons c t ih =>
    intro h
    obtain ⟨hc, ht⟩ := (digs_cons c t).1 h
    obtain ⟨h0, h1⟩ := ih ht
    have hp := pow_pos t.length
    rw [val_cons, List.length_cons, Int.pow_succ, dg_of hc]
    have hd0 : (0 : Int) ≤ (c.toNat : Int) - 48 := by omega
    have hd1 : ((c.toNat : Int) - 48) * 10 ^ t.length ≤ 9 * 10 ^ t.length := Int.mul_le_mul_of_nonneg_right (by omega) (by omega)
    have hd2 : 0 ≤ ((c.toNat : Int) - 48) * 10 ^ t.length := Int.mul_nonneg hd0 (by omega)
    generalize ((c.toNat : Int) - 48) * 10 ^ t.length = A at *
    generalize (10 : Int) ^ t.length = P at *
    omega

/-- The first byte that differs decides. -/
theorem val_first (p : List UInt8) (a b : UInt8) (s t : List UInt8) (hs : digs s = true) (ht : digs t = true) (ha : 48 ≤ a.toNat ∧ a.toNat ≤ 57) (hb : 48 ≤ b.toNat ∧ b.toNat ≤ 57) (hl : s.length = t.length) (hab : a.toNat < b.toNat) :
    val (p ++ a :: s) < val (p ++ b :: t) := by
  have hlt : val (a :: s) < val (b :: t) := by
    have h1 := val_lt s hs
    have h2 := val_lt t ht
    rw [val_cons, val_cons, dg_of ha, dg_of hb, hl]
    rw [hl] at h1
    have hp := pow_pos t.length
    have h3 : ((a.toNat : Int) - 48 + 1) * 10 ^ t.length ≤ ((b.toNat : Int) - 48) * 10 ^ t.length := Int.mul_le_mul_of_nonneg_right (by omega) (by omega)
    rw [Int.add_mul, Int.one_mul] at h3
    generalize ((a.toNat : Int) - 48) * 10 ^ t.length = A at *
    generalize ((b.toNat : Int) - 48) * 10 ^ t.length = B at *
    generalize (10 : Int) ^ t.length = P at *
    omega
  have e : ∀ l : List UInt8, val (p ++ l) = val p * 10 ^ l.length + val l := by
    intro l
    rw [← foldl_val l (val p)]
    simp [val]
  rw [e, e]
  have hll : (a :: s).length = (b :: t).length := by simp [hl]
  rw [hll]
  omega

theorem pow18 : (10 : Int) ^ 18 < 9223372036854775808 := by decide

theorem pow_le (k : Nat) (h : k ≤ 18) : (10 : Int) ^ k ≤ 10 ^ 18 := by
  have hn : 10 ^ k ≤ 10 ^ 18 := Nat.pow_le_pow_right (by decide) h
  have : ((10 ^ k : Nat) : Int) ≤ ((10 ^ 18 : Nat) : Int) := by exact_mod_cast hn
  simpa using this

theorem wrap_val (l : List UInt8) (h : digs l = true) (hl : l.length ≤ 18) : wrap64 (val l) = val l := by
  have h1 := val_lt l h
  have h2 := pow_le l.length hl
  have h3 := pow18
  exact wrap_of _ h1.1 (by omega)

theorem digs_append (a b : List UInt8) : digs (a ++ b) = (digs a && digs b) := by simp [digs]

/-- Two digit strings of one length: the first place at which they differ orders their values. -/
theorem val_order (a b : List UInt8) (k : Nat) (ha : digs a = true) (hb : digs b = true) (hl : a.length = b.length) (hk : k < a.length) (hkb : k < b.length) (h : a.take k = b.take k) (hab : a[k].toNat < b[k].toNat) : val a < val b := by
  have ea : a = a.take k ++ a[k] :: a.drop (k + 1) := by
    rw [List.getElem_cons_drop, List.take_append_drop]
  have eb : b = b.take k ++ b[k] :: b.drop (k + 1) := by
    rw [List.getElem_cons_drop, List.take_append_drop]
  have hda := ha
  have hdb := hb
  rw [ea, digs_append, Bool.and_eq_true, digs_cons] at hda
  rw [eb, digs_append, Bool.and_eq_true, digs_cons] at hdb
  rw [ea, eb, h]
  have := val_first (b.take k) a[k] b[k] (a.drop (k + 1)) (b.drop (k + 1)) hda.2.2 hdb.2.2 hda.2.1 hdb.2.1 (by simp [hl]) hab
  exact this

theorem val_zeros (z : Nat) (l : List UInt8) : val (List.replicate z 48 ++ l) = val l := by
  induction z with
  | zero => simp
  | succ z ih =>
    rw [List.replicate_succ, List.cons_append, val_cons, ih]
    simp [dg]
end Go.Proofs.Qxb6600705a.Plain
