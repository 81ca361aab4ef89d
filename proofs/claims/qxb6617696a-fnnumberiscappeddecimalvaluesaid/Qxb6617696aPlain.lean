/-
  Decimal numerals as lists of bytes: no Go in sight.
-/
import Derived.Lib.Strings
namespace Go.Proofs.Qxb6617696a

/-- Is the byte an ASCII digit? -/
def dig (c : UInt8) : Bool := decide (48 ≤ c.toNat) && decide (c.toNat ≤ 57)
def allDig (l : List UInt8) : Bool := l.all dig

/-- The numeral's value. -/
def dval (l : List UInt8) : Nat := l.foldl (fun n c => n * 10 + (c.toNat - 48)) 0

theorem dig_iff (c : UInt8) : dig c = true ↔ 48 ≤ c.toNat ∧ c.toNat ≤ 57 := by simp [dig]

theorem dval_nil : dval [] = 0 := rfl
theorem dval_snoc (l : List UInt8) (c : UInt8) : dval (l ++ [c]) = dval l * 10 + (c.toNat - 48) := by simp [dval]

theorem fold_from (l : List UInt8) : ∀ n : Nat, l.foldl (fun n c => n * 10 + (c.toNat - 48)) n = n * 10 ^ l.length + dval l := by
  induction l with
  | nil => intro n; simp [dval]
  | cons c l ih =>
    intro n
    have h1 := ih (n * 10 + (c.toNat - 48))
    have h2 := ih (0 * 10 + (c.toNat - 48))
    simp only [List.foldl_cons, List.length_cons, dval] at h1 h2 ⊢
    rw [h1, h2, Nat.pow_succ, Nat.add_mul, Nat.add_mul, Nat.mul_assoc, Nat.mul_comm 10 (10 ^ l.length)]
    omega

theorem dval_append (a b : List UInt8) : dval (a ++ b) = dval a * 10 ^ b.length + dval b := by
  show (a ++ b).foldl _ 0 = _
  rw [List.foldl_append, fold_from]
  rfl

theorem dval_cons (c : UInt8) (l : List UInt8) : dval (c :: l) = (c.toNat - 48) * 10 ^ l.length + dval l := by
  have := dval_append [c] l
  simpa [dval] using this

theorem allDig_append (a b : List UInt8) : allDig (a ++ b) = (allDig a && allDig b) := by simp [allDig]
theorem allDig_one (c : UInt8) : allDig [c] = dig c := by simp [allDig]

theorem dval_lt (l : List UInt8) (h : allDig l = true) : dval l < 10 ^ l.length := by
  induction l with
  | nil => simp [dval_nil]
  | cons c l ih =>
    simp only [allDig, List.all_cons, Bool.and_eq_true] at h
    have h1 := ih h.2
    have h2 := (dig_iff c).1 h.1
    rw [dval_cons]
    simp only [List.length_cons, Nat.pow_succ]
    have h3 : (c.toNat - 48) * 10 ^ l.length ≤ 9 * 10 ^ l.length := Nat.mul_le_mul_right _ (by omega)
    omega

/-- A numeral without a leading nought, but for "0". -/
def Canon (l : List UInt8) : Prop := allDig l = true ∧ (l.length = 1 ∨ ∃ c r, l = c :: r ∧ c ≠ 48)

theorem Canon.pos {l : List UInt8} (h : Canon l) : 0 < l.length := by
  rcases h.2 with h | ⟨c, r, rfl, _⟩
  · omega
  · simp

theorem ne48 {c : UInt8} (h : c ≠ 48) : c.toNat ≠ 48 := fun e => h (UInt8.toNat_inj.1 e)

/-- The greater length is the greater number. -/
theorem lead_le {c : UInt8} {r : List UInt8} (hd : allDig (c :: r) = true) (hc : c ≠ 48) : 10 ^ r.length ≤ dval (c :: r) := by
  have h1 : dig c = true := by
    simp only [allDig, List.all_cons, Bool.and_eq_true] at hd
    exact hd.1
  rw [dig_iff] at h1
  have h2 := ne48 hc
  rw [dval_cons]
  have : 1 * 10 ^ r.length ≤ (c.toNat - 48) * 10 ^ r.length := Nat.mul_le_mul_right _ (by omega)
  omega

theorem canon_lt {a b : List UInt8} (ha : Canon a) (hb : Canon b) (h : a.length < b.length) : dval a < dval b := by
  have h1 := dval_lt a ha.1
  rcases hb.2 with h2 | ⟨c, r, rfl, hc⟩
  · have := ha.pos
    omega
  · have h3 := lead_le hb.1 hc
    simp only [List.length_cons] at h
    have h4 : 10 ^ a.length ≤ 10 ^ r.length := Nat.pow_le_pow_right (by omega) (by omega)
    omega

/-- At the first place where two numerals of one length part, the greater digit is the greater number. -/
theorem part_lt (p u v : List UInt8) (x y : UInt8) (hu : allDig u = true) (hl : u.length = v.length) (hx : dig x = true) (hxy : x.toNat < y.toNat) :
    dval (p ++ x :: u) < dval (p ++ y :: v) := by
  rw [dval_append, dval_append, dval_cons, dval_cons]
  simp only [List.length_cons, hl]
  have h1 := dval_lt u hu
  rw [hl] at h1
  rw [dig_iff] at hx
  have h2 : (x.toNat - 48 + 1) * 10 ^ v.length ≤ (y.toNat - 48) * 10 ^ v.length := Nat.mul_le_mul_right _ (by omega)
  rw [Nat.add_mul] at h2
  omega

/-- Two numerals without leading noughts that say the same number are the same. -/
theorem same_len {a b : List UInt8} (ha : allDig a = true) (hb : allDig b = true) (hl : a.length = b.length) (hv : dval a = dval b) : a = b := by
  induction a generalizing b with
  | nil => exact (List.eq_nil_of_length_eq_zero (by simpa using hl.symm)).symm
  | cons x a ih =>
    cases b with
    | nil => simp at hl
    | cons y b =>
      simp only [allDig, List.all_cons, Bool.and_eq_true] at ha hb
      simp only [List.length_cons, Nat.add_right_cancel_iff] at hl
      rcases Nat.lt_trichotomy x.toNat y.toNat with h | h | h
      · have := part_lt [] a b x y ha.2 hl ha.1 h
        simp only [List.nil_append] at this
        omega
      · have e := UInt8.toNat_inj.1 h
        subst e
        rw [dval_cons, dval_cons, hl] at hv
        rw [ih ha.2 hb.2 hl (by omega)]
      · have := part_lt [] b a y x hb.2 hl.symm hb.1 h
        simp only [List.nil_append] at this
        omega

theorem canon_eq {a b : List UInt8} (ha : Canon a) (hb : Canon b) (hv : dval a = dval b) : a = b := by
  rcases Nat.lt_trichotomy a.length b.length with h | h | h
  · have := canon_lt ha hb h; omega
  · exact same_len ha.1 hb.1 h hv
  · have := canon_lt hb ha h; omega

/-- Leading noughts say nothing. -/
theorem dval_noughts (k : Nat) (l : List UInt8) : dval (List.replicate k 48 ++ l) = dval l := by
  rw [dval_append]
  have : dval (List.replicate k 48) = 0 := by
    induction k with
    | zero => rfl
    | succ k ih => rw [List.replicate_succ, dval_cons, ih]; simp
  rw [this]; omega

end Go.Proofs.Qxb6617696a
