/-
  The plain mathematics of 'fits': no Go in sight.
-/
import Derived.WalkKit
namespace Go.Proofs.Qxb6600705a.FitsPlain

/-- Does the byte c fit the form's byte f? -/
def f1 (c f : Int) : Bool := if f = 48 then decide (48 ≤ c ∧ c ≤ 57) else if f = 84 then decide (c = 84 ∨ c = 116) else if f = 43 then decide (c = 43 ∨ c = 45) else decide (c = f)

/-- Does s fit the form? -/
def fitsL : List UInt8 → List UInt8 → Bool
  | [], [] => true
  | c :: s, f :: g => f1 (c.toNat : Int) (f.toNat : Int) && fitsL s g
  | [], _ :: _ => false
  | _ :: _, [] => false

theorem fitsL_len : ∀ (s g : List UInt8), s.length ≠ g.length → fitsL s g = false
  | [], [], h => by simp at h
  | [], _ :: _, _ => rfl
  | _ :: _, [], _ => rfl
  | c :: s, f :: g, h => by
    simp only [fitsL]
    rw [fitsL_len s g (by simpa using h), Bool.and_false]

theorem fitsL_snoc : ∀ (s g : List UInt8) (c f : UInt8), s.length = g.length → fitsL (s ++ [c]) (g ++ [f]) = (fitsL s g && f1 (c.toNat : Int) (f.toNat : Int))
  | [], [], c, f, _ => by simp [fitsL]
  | [], _ :: _, _, _, h => by simp at h
  | _ :: _, [], _, _, h => by simp at h
  | a :: s, b :: g, c, f, h => by
    simp only [fitsL, List.cons_append]
    rw [fitsL_snoc s g c f (by simpa using h), Bool.and_assoc]

theorem fitsL_miss : ∀ (s g : List UInt8) (k : Nat) (hs : k < s.length) (hg : k < g.length), f1 (s[k].toNat : Int) (g[k].toNat : Int) = false → fitsL s g = false
  | [], _, _, hs, _, _ => by simp at hs
  | _ :: _, [], _, _, hg, _ => by simp at hg
  | c :: s, f :: g, 0, _, _, h => by
    simp only [fitsL]
    have h' : f1 (c.toNat : Int) (f.toNat : Int) = false := h
    rw [h', Bool.false_and]
  | c :: s, f :: g, k + 1, hs, hg, h => by
    simp only [fitsL]
    rw [fitsL_miss s g k (by simpa using hs) (by simpa using hg) h, Bool.and_false]

/-- The other spelling of a byte; and a bad one. -/
def o1 (f : UInt8) : UInt8 := if f = 48 then 57 else if f = 84 then 116 else if f = 43 then 45 else f
def b1 (f : UInt8) : UInt8 := if f = 48 then 58 else if f = 84 then 117 else if f = 43 then 44 else f
/-- Is the byte one of the three that stand for more than themselves? -/
def wild (f : UInt8) : Bool := f == 48 || f == 84 || f == 43
def wildL (l : List UInt8) : Bool := l.any wild

theorem f1_self (f : Int) : f1 f f = true := by
  unfold f1
  split
  · simp; omega
  · split
    · simp; omega
    · split
      · simp; omega
      · simp

theorem nat_ne {f : UInt8} {n : Nat} (hn : n < 256) (h : ¬ f = UInt8.ofNat n) : ¬ (f.toNat : Int) = (n : Int) := by
  intro e
  apply h
  apply UInt8.toNat_inj.1
  rw [UInt8.toNat_ofNat', Nat.mod_eq_of_lt (by omega)]
  omega

theorem f1_o (f : UInt8) : f1 ((o1 f).toNat : Int) (f.toNat : Int) = true := by
  unfold o1
  by_cases h1 : f = 48
  · subst h1; decide
  · by_cases h2 : f = 84
    · subst h2; decide
    · by_cases h3 : f = 43
      · subst h3; decide
      · rw [if_neg h1, if_neg h2, if_neg h3]; exact f1_self _

theorem f1_b (f : UInt8) : f1 ((b1 f).toNat : Int) (f.toNat : Int) = !wild f := by
  unfold b1 wild
  by_cases h1 : f = 48
  · subst h1; decide
  · by_cases h2 : f = 84
    · subst h2; decide
    · by_cases h3 : f = 43
      · subst h3; decide
      · rw [if_neg h1, if_neg h2, if_neg h3, f1_self]; simp [h1, h2, h3]

theorem fits_self (l : List UInt8) : fitsL l l = true := by
  induction l with
  | nil => rfl
  | cons f l ih => simp only [fitsL]; rw [ih, f1_self]; rfl

theorem fits_o (l : List UInt8) : fitsL (l.map o1) l = true := by
  induction l with
  | nil => rfl
  | cons f l ih => simp only [fitsL, List.map_cons]; rw [ih, f1_o]; rfl

theorem fits_b (l : List UInt8) : fitsL (l.map b1) l = !wildL l := by
  induction l with
  | nil => rfl
  | cons f l ih => simp only [fitsL, List.map_cons]; rw [ih, f1_b]; simp [wildL]

/-- A row that is filled from the left. -/
def mixed (h : UInt8 → UInt8) (l : List UInt8) (k : Nat) : List UInt8 := (l.take k).map h ++ List.replicate (l.length - k) 0

theorem mixed_zero (h : UInt8 → UInt8) (l : List UInt8) : mixed h l 0 = List.replicate l.length 0 := by simp [mixed]
theorem mixed_all (h : UInt8 → UInt8) (l : List UInt8) : mixed h l l.length = l.map h := by simp [mixed]
theorem mixed_length (h : UInt8 → UInt8) (l : List UInt8) (k : Nat) (hk : k ≤ l.length) : (mixed h l k).length = l.length := by
  simp [mixed]; omega
theorem mixed_set (h : UInt8 → UInt8) (l : List UInt8) (k : Nat) (hk : k < l.length) : (mixed h l k).set k (h l[k]) = mixed h l (k + 1) := by
  unfold mixed
  have hlen : ((l.take k).map h).length = k := by simp; omega
  rw [List.take_succ_eq_append_getElem hk, List.set_append_right _ _ (by omega), hlen, Nat.sub_self, show l.length - k = (l.length - (k + 1)) + 1 by omega, List.replicate_succ, List.set_cons_zero, List.map_append, List.append_assoc]
  rfl

theorem wildL_snoc (l : List UInt8) (k : Nat) (hk : k < l.length) : wildL (l.take (k + 1)) = (wildL (l.take k) || wild l[k]) := by
  unfold wildL
  rw [List.take_succ_eq_append_getElem hk, List.any_append]
  simp only [List.any_cons, List.any_nil, Bool.or_false]
end Go.Proofs.Qxb6600705a.FitsPlain
