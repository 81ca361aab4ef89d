/-
  THE WALK OF FnNumberIsCappedDecimalValue.
-/
import Derived.Test.Qxb6617696aLe
import Derived.Test.Qxb6617696aItoa
import Derived.Lib.IndexBytes
namespace Go.Proofs.Qxb6617696a
open Go.RowKit
set_option linter.unusedVariables false

def Yes (w : World) (e : Ending) (w' : World) : Prop := e = .returned (.bool true) ∧ Below w.heap.size w w'
theorem Yes.mk {w w' : World} (h : Below w.heap.size w w') : Yes w (.returned (.bool true)) w' := ⟨rfl, h⟩
theorem Yes.of {w w' : World} {b : Bool} (hb : b = true) (h : Below w.heap.size w w') : Yes w (.returned (.bool b)) w' := ⟨by rw [hb], h⟩

set_option maxHeartbeats 400000 in
theorem bytes_far (s : ByteArray) (lim : Int) (w : World) (h : 1048576 < s.size) :
    Calls Try.prog 4 #[.string s, .int .i64 lim] w fun e w' => e = .returned (.bool false) ∧ w' = w := by
  go_enter Try.func4, Try.ntmps4
  go_wp2
  go_ret
  exact ⟨rfl, rfl⟩

set_option maxHeartbeats 400000 in
theorem bytes_near (s : ByteArray) (lim : Int) (w : World) (h : s.size ≤ 1048576) :
    Calls Try.prog 4 #[.string s, .int .i64 lim] w fun e w' => e = .returned (.bool true) ∧ w' = w := by
  go_enter Try.func4, Try.ntmps4
  go_wp2
  go_ret
  exact ⟨rfl, rfl⟩

set_option maxHeartbeats 400000 in
theorem law_far (s : ByteArray) (lim : Int) (w : World) (h : 1048576 < s.size) : Calls Try.prog 3 #[.string s, .int .i64 lim] w (Yes w) := by
  go_enter Try.func3, Try.ntmps3
  go_wp2_with fail
  refine (bytes_far s lim w h).mono ?_
  rintro e w1 ⟨rfl, rfl⟩
  go_wp2
  go_ret
  exact Yes.mk (Below.refl _ _)

set_option maxHeartbeats 400000 in
theorem law_out (s : ByteArray) (lim : Int) (w : World) (h : s.size ≤ 1048576) (hl : lim < 0 ∨ 922337203685477579 < lim) : Calls Try.prog 3 #[.string s, .int .i64 lim] w (Yes w) := by
  rcases hl with hl | hl
  · go_enter Try.func3, Try.ntmps3
    go_wp2_with fail
    refine (bytes_near s lim w h).mono ?_
    rintro e w1 ⟨rfl, rfl⟩
    go_wp2
    go_ret
    exact Yes.mk (Below.refl _ _)
  · have hl0 : 0 ≤ lim := by omega
    go_enter Try.func3, Try.ntmps3
    go_wp2_with fail
    refine (bytes_near s lim w h).mono ?_
    rintro e w1 ⟨rfl, rfl⟩
    go_wp2
    go_ret
    exact Yes.mk (Below.refl _ _)

theorem tail_canon {s : ByteArray} {j : Nat} (hj : j < s.size) (had : allDig s.data.toList = true) (hz : s.data.toList.take j = List.replicate j 48) (hs : ¬ (j + 1 < s.size ∧ s[j].toNat = 48)) :
    Canon (s.data.toList.drop j) ∧ dval (s.data.toList.drop j) = dval s.data.toList := by
  have e := List.take_append_drop j s.data.toList
  have hd : s.data.toList.drop j = s[j] :: s.data.toList.drop (j + 1) := by
    rw [List.drop_eq_getElem_cons (by simpa using hj)]; rfl
  refine ⟨⟨?_, ?_⟩, ?_⟩
  · rw [← e, allDig_append, Bool.and_eq_true] at had
    exact had.2
  · by_cases h1 : j + 1 < s.size
    · refine .inr ⟨_, _, hd, fun h => hs ⟨h1, ?_⟩⟩
      rw [h]; rfl
    · refine .inl ?_
      rw [List.length_drop, ← Lib.size_eq]
      omega
  · rw [← congrArg dval e, hz, dval_noughts]

set_option maxHeartbeats 1000000 in
theorem law_in (s : ByteArray) (N : Nat) (w : World) (h : s.size ≤ 1048576) (hl : (N : Int) ≤ 922337203685477579) : Calls Try.prog 3 #[.string s, .int .i64 N] w (Yes w) := by
  go_enter Try.func3, Try.ntmps3
  go_wp2_with fail
  refine (bytes_near s N w h).mono ?_
  rintro e w1 ⟨rfl, rfl⟩
  go_wp2_with fail
  refine (zznumber_any s N _ (by omega) hl h).mono ?_
  rintro e w1 ⟨r, ok, rfl, rfl, hr⟩
  have HR : Hid ((ok = true ∧ s.data.toList ≠ [] ∧ allDig s.data.toList = true ∧ r = min (dval s.data.toList : Int) N) ∨ (ok = false ∧ r = 0 ∧ (s.data.toList = [] ∨ allDig s.data.toList = false))) := hr
  clear hr
  go_wp2
  go_loop [7, 8] (fun d i => ∃ (k : Nat) (D : Bool), k ≤ s.size ∧ i = .int .i64 k ∧ d = .bool D ∧ Hid (D = (decide (0 < s.size) && allDig (s.data.toList.take k)))) (fun _ i => s.size - (intOf i).toNat)
  case atStart => exact ⟨0, _, Nat.zero_le _, rfl, rfl, by show _ = _; simp [allDig]⟩
  case round =>
    obtain ⟨k, D, hk, rfl, rfl, HD⟩ := hrel
    by_cases hlt : k < s.size
    · have HT : Hid (s.data.toList.take (k + 1) = s.data.toList.take k ++ [s[k]]) := take_snoc s k hlt
      by_cases hc1 : (s[k].toNat : Int) < 48
      · go_wp2
        go_round
        case rel => exact ⟨k + 1, false, by omega, by go_num, rfl, by rw [HT.out, allDig_append, allDig_one, show dig s[k] = false by simp [dig]; omega]; show _ = _; simp⟩
        case measure => simp [intOf]; omega
      · by_cases hc2 : 57 < (s[k].toNat : Int)
        · go_wp2
          go_round
          case rel => exact ⟨k + 1, false, by omega, by go_num, rfl, by rw [HT.out, allDig_append, allDig_one, show dig s[k] = false by simp [dig]; omega]; show _ = _; simp⟩
          case measure => simp [intOf]; omega
        · go_wp2
          go_round
          case rel => exact ⟨k + 1, D, by omega, by go_num, rfl, by rw [HT.out, allDig_append, allDig_one, show dig s[k] = true by simp [dig]; omega, Bool.and_true]; exact HD⟩
          case measure => simp [intOf]; omega
    · have HE : Hid (D = (decide (0 < s.size) && allDig s.data.toList)) := by
        have := HD.out
        rw [List.take_of_length_le (by rw [← Lib.size_eq]; omega)] at this
        exact this
      clear HD
      rcases HR.out with ⟨rfl, hne, had, hr⟩ | ⟨rfl, rfl, hbad⟩
      · have hpos : 0 < s.size := by
          rw [Lib.size_eq]
          exact List.length_pos_iff.2 hne
        obtain rfl : D = true := by rw [HE.out, had]; simp; exact hpos
        obtain ⟨R, rfl⟩ : ∃ R : Nat, r = R := ⟨r.toNat, by omega⟩
        have HN : Hid (allDig s.data.toList = true ∧ (R : Int) = min (dval s.data.toList : Int) N) := ⟨had, hr⟩
        clear HE HR hne had hr
        go_wp2
        go_loop [9] (fun i => ∃ j : Nat, j < s.size ∧ i = .int .i64 j ∧ Hid (s.data.toList.take j = List.replicate j 48)) (fun i => s.size - (intOf i).toNat)
        case atStart => exact ⟨0, hpos, rfl, rfl⟩
        case round =>
          obtain ⟨j, hj, rfl, HJ⟩ := hrel
          by_cases hgo : j + 1 < s.size ∧ s[j].toNat = 48
          · have HN2 : Hid (s.data.toList.take (j + 1) = List.replicate (j + 1) 48) := by
              rw [take_snoc s j hj, HJ.out, List.replicate_succ', UInt8.toNat_inj.1 (show s[j].toNat = (48 : UInt8).toNat from hgo.2)]; exact rfl
            have hj1 : j + 1 < s.size := hgo.1
            have hz : ((s[j].toNat : Int) == 48) = true := by simp; omega
            clear hgo
            go_wp2
            go_round
            case rel => exact ⟨j + 1, by omega, by go_num, HN2⟩
            case measure => simp [intOf]; omega
          · have HC : Hid (Canon (s.data.toList.drop j) ∧ dval (s.data.toList.drop j) = dval s.data.toList) := tail_canon hj HN.out.1 HJ.out hgo
            have hz : j + 1 < s.size → ((s[j].toNat : Int) == 48) = false := by intro h; simp; omega
            clear HJ hgo
            by_cases hj1 : j + 1 < s.size
            all_goals
              first | (have hz1 := hz hj1) | skip
              clear hz
              go_wp2_with fail
              refine (itoa_any N _ (by omega)).mono ?_
              rintro e w2 ⟨rl, rfl, hcl, hvl, hb2, hs2⟩
              have H2 : Hid (Canon rl.data.toList ∧ dval rl.data.toList = N ∧ Below w1.heap.size w1 w2) := ⟨hcl, hvl, hb2⟩
              clear hcl hvl hb2
              have HX : Hid ((s.extract j s.size).data.toList = s.data.toList.drop j ∧ (s.extract j s.size).size ≤ 1048576) := by
                have e := Lib.extract_to_end s j
                refine ⟨e, ?_⟩
                rw [Lib.size_eq, e, List.length_drop, ← Lib.size_eq]
                omega
              go_wp2_with fail
              refine (le_any (s.extract j s.size) rl _ HX.out.2 (by omega) (by rw [HX.out.1]; exact HC.out.1) H2.out.1).mono ?_
              rintro e w3 ⟨q, rfl, hb3, hq⟩
              have H3 : Hid (Below w1.heap.size w1 w3 ∧ (q = true ↔ dval s.data.toList ≤ N)) :=
                ⟨H2.out.2.2.trans (hb3.mono H2.out.2.2.size), by rw [HX.out.1, HC.out.2, H2.out.2.1] at hq; exact hq⟩
              clear hb3 hq H2
              cases q with
              | true =>
                go_wp2_with fail
                refine (itoa_any R _ (by have := HN.out.2; omega)).mono ?_
                rintro e w4 ⟨rr, rfl, hcr, hvr, hb4, _⟩
                have H4 : Hid ((rr.toList == (s.extract j s.size).toList) = true ∧ Below w1.heap.size w1 w4) := by
                  refine ⟨?_, H3.out.1.trans (hb4.mono H3.out.1.size)⟩
                  have hle : dval s.data.toList ≤ N := by simpa using H3.out.2
                  have hR := HN.out.2
                  rw [Lib.toList_data, Lib.toList_data, HX.out.1, canon_eq hcr HC.out.1 (by rw [hvr, HC.out.2]; omega)]
                  simp
                clear hcr hvr hb4
                go_wp2
                go_ret
                exact Yes.of H4.out.1 H4.out.2
              | false =>
                have hRN : (R : Int) = N := by
                  have h1 := HN.out.2
                  have h2 : ¬ dval s.data.toList ≤ N := fun h => by simpa using H3.out.2.2 h
                  omega
                have HRN : Hid ((R : Int) = N) := hRN
                clear hRN
                go_wp2
                go_ret
                exact Yes.of (by rw [HRN.out]; simp) H3.out.1
      · obtain rfl : D = false := by
          rw [HE.out]
          rcases hbad with hb | hb
          · have : s.size = 0 := by rw [Lib.size_eq, hb]; rfl
            simp [this]
          · rw [hb]; simp
        clear HE HR hbad
        go_wp2
        go_ret
        exact Yes.of (by simp) (Below.refl _ _)

theorem law (s : ByteArray) (lim : Int) (w : World) : Calls Try.prog 3 #[.string s, .int .i64 lim] w (Yes w) := by
  by_cases h : 1048576 < s.size
  · exact law_far s lim w h
  by_cases hl : lim < 0 ∨ 922337203685477579 < lim
  · exact law_out s lim w (by omega) hl
  · obtain ⟨N, rfl⟩ : ∃ N : Nat, lim = N := ⟨lim.toNat, by omega⟩
    exact law_in s N w (by omega) (by omega)

end Go.Proofs.Qxb6617696a
