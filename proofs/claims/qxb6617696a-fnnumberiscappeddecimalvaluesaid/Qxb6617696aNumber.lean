/-
  tickwright.number, ZZnumber: the capped value.
-/
import Derived.Test.Qxb6617696aRows
import Derived.Test.Qxb6617696aPlain
import Derived.WalkKit
import Derived.WalkSpells
import Derived.WalkLawsBesides
namespace Go.Proofs.Qxb6617696a
open Go.RowKit
set_option linter.unusedVariables false

def NumSays (l : List UInt8) (lim : Int) (w : World) (e : Ending) (w' : World) : Prop :=
  ∃ r ok, e = .returned (.tuple #[.int .i64 r, .bool ok]) ∧ w' = w ∧ ((ok = true ∧ l ≠ [] ∧ allDig l = true ∧ r = min (dval l : Int) lim) ∨ (ok = false ∧ r = 0 ∧ (l = [] ∨ allDig l = false)))
theorem num_yes {l : List UInt8} {lim r : Int} {w : World} (h1 : l ≠ []) (h2 : allDig l = true) (h3 : r = min (dval l : Int) lim) : NumSays l lim w (.returned (.tuple #[.int .i64 r, .bool true])) w :=
  ⟨r, true, rfl, rfl, .inl ⟨rfl, h1, h2, h3⟩⟩
theorem num_no {l : List UInt8} {lim : Int} {w : World} (h : l = [] ∨ allDig l = false) : NumSays l lim w (.returned (.tuple #[.int .i64 0, .bool false])) w :=
  ⟨0, false, rfl, rfl, .inr ⟨rfl, rfl, h⟩⟩

theorem take_snoc (s : ByteArray) (k : Nat) (h : k < s.size) : s.data.toList.take (k + 1) = s.data.toList.take k ++ [s[k]] := by
  rw [List.take_succ_eq_append_getElem (by simpa using h)]; rfl

theorem bad_at {s : ByteArray} {k : Nat} {c : UInt8} (h : s.data.toList.take (k + 1) = s.data.toList.take k ++ [c]) (hc : dig c = false) : allDig s.data.toList = false := by
  have := allDig_append (s.data.toList.take (k + 1)) (s.data.toList.drop (k + 1))
  rw [List.take_append_drop, h, allDig_append, allDig_one, hc] at this
  simpa using this

theorem cap_step {s : ByteArray} {k : Nat} {c : UInt8} {v lim : Int} (h0 : 0 ≤ lim) (h1 : 48 ≤ (c.toNat : Int)) (h2 : (c.toNat : Int) ≤ 57)
    (hv : v = min (dval (s.data.toList.take k) : Int) lim ∧ allDig (s.data.toList.take k) = true) (h : s.data.toList.take (k + 1) = s.data.toList.take k ++ [c]) :
    Hid ((if lim < v * 10 + ((c.toNat : Int) - 48) then lim else v * 10 + ((c.toNat : Int) - 48)) = min (dval (s.data.toList.take (k + 1)) : Int) lim ∧ allDig (s.data.toList.take (k + 1)) = true) := by
  rw [h, dval_snoc, allDig_append, allDig_one]
  refine ⟨?_, by rw [hv.2]; simp [dig]; omega⟩
  have := hv.1
  split <;> omega

set_option maxHeartbeats 400000 in
theorem number_any (s : ByteArray) (lim : Int) (w : World) (h0 : 0 ≤ lim) (h1 : lim ≤ 922337203685477579) (hs : s.size ≤ 1048576) :
    Calls Try.prog 8 #[.string s, .int .i64 lim] w (NumSays s.data.toList lim w) := by
  by_cases he : s.size = 0
  · have hl : s.data.toList = [] := List.eq_nil_of_length_eq_zero (by rw [← Lib.size_eq]; exact he)
    have ht : s.toList = [] := by rw [Lib.toList_data, hl]
    go_enter Try.func8, Try.ntmps8
    go_wp2
    go_ret2
    exact num_no (.inl hl)
  · have ht : s.toList.isEmpty = false := by
      rw [Lib.toList_data]
      cases hl : s.data.toList with
      | nil => exact absurd (by rw [Lib.size_eq, hl]; rfl) he
      | cons c r => rfl
    go_enter Try.func8, Try.ntmps8
    go_wp2
    go_loop [6, 7] (fun n i => ∃ (k : Nat) (v : Int), k ≤ s.size ∧ i = .int .i64 k ∧ n = .int .i64 v ∧ 0 ≤ v ∧ v ≤ lim ∧ Hid (v = min (dval (s.data.toList.take k) : Int) lim ∧ allDig (s.data.toList.take k) = true)) (fun _ i => s.size - (intOf i).toNat)
    case atStart => exact ⟨0, 0, Nat.zero_le _, rfl, rfl, by omega, h0, by simp [dval]; omega, rfl⟩
    case round =>
      obtain ⟨k, v, hk, rfl, rfl, hv0, hv1, HV⟩ := hrel
      by_cases hlt : k < s.size
      · have HT : Hid (s.data.toList.take (k + 1) = s.data.toList.take k ++ [s[k]]) := take_snoc s k hlt
        by_cases hc1 : (s[k].toNat : Int) < 48
        · go_wp2
          go_ret2
          exact num_no (.inr (bad_at HT.out (by simp [dig]; omega)))
        · by_cases hc2 : 57 < (s[k].toNat : Int)
          · go_wp2
            go_ret2
            exact num_no (.inr (bad_at HT.out (by simp [dig]; omega)))
          · go_wp2
            go_round
            case rel => exact ⟨k + 1, _, by omega, by go_num, rfl, by split <;> omega, by split <;> omega, cap_step h0 (by omega) (by omega) HV.out HT.out⟩
            case measure => simp [intOf]; omega
      · have HE : Hid (s.data.toList.take k = s.data.toList) := by
          rw [List.take_of_length_le (by rw [← Lib.size_eq]; omega)]; exact rfl
        go_wp2
        go_ret2
        have h2 := HV.out
        rw [HE.out] at h2
        exact num_yes (by intro h; exact he (by rw [Lib.size_eq, h]; rfl)) h2.2 h2.1

set_option maxHeartbeats 400000 in
theorem zznumber_any (s : ByteArray) (lim : Int) (w : World) (h0 : 0 ≤ lim) (h1 : lim ≤ 922337203685477579) (hs : s.size ≤ 1048576) :
    Calls Try.prog 5 #[.string s, .int .i64 lim] w (NumSays s.data.toList lim w) := by
  go_enter Try.func5, Try.ntmps5
  go_wp2_with fail
  refine (number_any s lim w h0 h1 hs).mono ?_
  rintro e w1 ⟨r, ok, rfl, rfl, hr⟩
  have HR : Hid _ := hr
  clear hr
  go_wp2
  go_ret2
  exact ⟨r, ok, rfl, rfl, HR.out⟩

end Go.Proofs.Qxb6617696a
