/-
  Plain facts on lists and strings: no Go in sight (but for the walk's own words for strings).
-/
import Derived.Test.Qxb6617631aRowOf
namespace Go.Proofs.Qxb6617631a
open Go.RowKit

theorem bs_append (a b : List ByteArray) : bs (a ++ b) = bs a ++ bs b := by simp [bs]

theorem lens_bs (xs : List ByteArray) : Lib.lens (bs xs) = tot xs := by
  induction xs with
  | nil => simp [bs, tot, Lib.lens]
  | cons s r ih =>
    simp only [bs, Lib.lens, List.map_cons, List.sum_cons, tot] at ih ⊢
    rw [ih, Lib.size_eq]

theorem join_le (xs : List ByteArray) : (Lib.join (bs xs) [44, 32]).length ≤ tot xs + 2 * xs.length := by
  cases xs with
  | nil => simp [bs, Lib.join_nil]
  | cons s r =>
    have h := Lib.join_length s.data.toList (bs r) [44, 32]
    have e : bs (s :: r) = s.data.toList :: bs r := rfl
    rw [e, h, ← e, lens_bs]
    simp [bs]
    omega

theorem joinTail_append (sep : List UInt8) (a b : List (List UInt8)) : Lib.joinTail sep (a ++ b) = Lib.joinTail sep a ++ Lib.joinTail sep b := by simp [Lib.joinTail]

/-- Join of two lists, neither empty. -/
theorem join_append (a b : List (List UInt8)) (sep : List UInt8) (ha : a ≠ []) (hb : b ≠ []) : Lib.join (a ++ b) sep = Lib.join a sep ++ sep ++ Lib.join b sep := by
  cases a with
  | nil => exact absurd rfl ha
  | cons x a =>
    cases b with
    | nil => exact absurd rfl hb
    | cons y b =>
      rw [List.cons_append, Lib.join_cons, Lib.join_cons, Lib.join_cons, joinTail_append]
      simp [Lib.joinTail, List.append_assoc]

theorem set_step (ss : List ByteArray) (k : Nat) (e : ByteArray) (h : k < ss.length) :
    (ss.take k ++ List.replicate (ss.length + 1 - k) e).set k (ss.getD k ByteArray.empty) = ss.take (k + 1) ++ List.replicate (ss.length + 1 - (k + 1)) e := by
  rw [List.set_append_right _ _ (by simp; omega), show ss.length + 1 - k = (ss.length + 1 - (k + 1)) + 1 by omega, List.replicate_succ]
  have e1 : k - (List.take k ss).length = 0 := by simp; omega
  rw [e1, List.set_cons_zero, List.take_succ_eq_append_getElem h, List.append_assoc, List.getD, List.getElem?_eq_getElem h]
  rfl

theorem set_last (ss : List ByteArray) (e x : ByteArray) : (ss.take ss.length ++ List.replicate (ss.length + 1 - ss.length) e).set ss.length x = ss ++ [x] := by
  rw [List.take_length, show ss.length + 1 - ss.length = 1 by omega]
  simp

theorem str_eq {a b : ByteArray} (h : a.data.toList = b.data.toList) : (a.toList == b.toList) = true := by
  rw [Lib.toList_data, Lib.toList_data, h]; simp

theorem data_append (a b : ByteArray) : (a ++ b).data.toList = a.data.toList ++ b.data.toList := by simp [ByteArray.data_append]

theorem snoc_of (ss : List ByteArray) (h : 0 < ss.length) : ∃ vs z, ss = vs ++ [z] ∧ vs.length = ss.length - 1 := by
  refine ⟨ss.dropLast, ss.getLast (List.ne_nil_of_length_pos h), (List.dropLast_concat_getLast _).symm, by simp⟩

theorem tot_mem (ss : List ByteArray) (s : ByteArray) (h : s ∈ ss) : s.size ≤ tot ss := by
  induction ss with
  | nil => simp at h
  | cons a r ih =>
    simp only [List.mem_cons] at h
    rcases h with rfl | h
    · simp [tot]
    · have := ih h
      simp [tot]; omega

theorem size_J {rb z : ByteArray} {J : List UInt8} (h : rb.data.toList = J ++ [32, 97, 110, 100, 32] ++ z.data.toList) : rb.size = J.length + 5 + z.size := by
  rw [Lib.size_eq rb, h, Lib.size_eq z]
  simp
  omega

theorem cut_J {rb z : ByteArray} {J : List UInt8} (h : rb.data.toList = J ++ [32, 97, 110, 100, 32] ++ z.data.toList) : rb.size - z.size - 5 = J.length := by
  have := size_J h
  omega

/-- 'before[p:]' is " and " and the last word. -/
theorem tail_ok {rb z : ByteArray} {J : List UInt8} (h : rb.data.toList = J ++ [32, 97, 110, 100, 32] ++ z.data.toList) :
    ((rb.extract (rb.size - z.size - 5) rb.size).toList == ((⟨#[32, 97, 110, 100, 32]⟩ : ByteArray) ++ z).toList) = true := by
  apply str_eq
  rw [cut_J h, Lib.extract_data, h, data_append, List.append_assoc, List.drop_left, size_J h, List.take_of_length_le]
  · rw [Lib.size_eq z]
    simp
    omega

/-- 'before[:p]' is the front, joined. -/
theorem head_ok {rb z : ByteArray} {J : List UInt8} (h : rb.data.toList = J ++ [32, 97, 110, 100, 32] ++ z.data.toList) :
    (rb.extract 0 (rb.size - z.size - 5)).data.toList = J := by
  rw [cut_J h, Lib.extract_data, h, List.append_assoc]
  simp

theorem got_one {rg z x : ByteArray} (h : rg.data.toList = andOf [z] x) : (rg.toList == (z ++ (⟨#[32, 97, 110, 100, 32]⟩ : ByteArray) ++ x).toList) = true := by
  apply str_eq
  rw [h, andOf, if_neg (by simp), data_append, data_append]
  simp [bs, Lib.join_one]

theorem got_many {rg rb z x : ByteArray} {vs : List ByteArray} (hv : vs ≠ []) (h : rg.data.toList = andOf (vs ++ [z]) x) (hb : rb.data.toList = andOf vs z) :
    (rg.toList == (rb.extract 0 (rb.size - z.size - 5) ++ (⟨#[44, 32]⟩ : ByteArray) ++ z ++ (⟨#[32, 97, 110, 100, 32]⟩ : ByteArray) ++ x).toList) = true := by
  apply str_eq
  rw [andOf, if_neg hv] at hb
  rw [h, andOf, if_neg (by simp), data_append, data_append, data_append, data_append, head_ok hb, bs_append, join_append _ _ _ (by simpa [bs] using hv) (by simp [bs])]
  simp [bs, Lib.join_one]

end Go.Proofs.Qxb6617631a
