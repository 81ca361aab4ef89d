/-
  itoaNonNeg: the numeral without leading noughts.
-/
import Derived.Test.Qxb6617696aNumber
import Derived.Laws.IdiomStrings
namespace Go.Proofs.Qxb6617696a
open Go.RowKit
set_option linter.unusedVariables false

def ItoaSays (n : Nat) (w : World) (e : Ending) (w' : World) : Prop := ∃ r : ByteArray, e = .returned (.string r) ∧ Canon r.data.toList ∧ dval r.data.toList = n ∧ Below w.heap.size w w' ∧ r.size ≤ 24

def vals (l : List UInt8) : List Value := l.map fun b => Value.int .u8 b.toNat

/-- At the loop's head: of N the digits l have been written, at the array's end; m is left. -/
def Inv (N : Nat) (w wr : World) (g m I : Nat) (l : List UInt8) : Prop :=
  I + l.length = 24 ∧ wr.heap[g]? = some (.cells (List.replicate I (Value.int .u8 0) ++ vals l).toArray 27 (0, 0)) ∧ allDig l = true ∧ N = m * 10 ^ l.length + dval l ∧ (l = [] ∨ 0 < m) ∧ Below g w wr

theorem Inv.ge {N : Nat} {w wr : World} {g m I : Nat} {l : List UInt8} (h : Inv N w wr g m I l) (hN : N ≤ 9223372036854775807) : 6 ≤ I ∧ I ≤ 24 ∧ m ≤ N := by
  obtain ⟨h1, _, _, h4, h5, _⟩ := h
  have hp : 0 < 10 ^ l.length := Nat.pow_pos (by omega)
  have hm : m * 1 ≤ m * 10 ^ l.length := Nat.mul_le_mul_left _ hp
  refine ⟨?_, by omega, by omega⟩
  rcases h5 with rfl | h5
  · simp at h1; omega
  · by_cases hl : l.length ≤ 18
    · omega
    · exfalso
      have h6 : (10 : Nat) ^ 19 ≤ 10 ^ l.length := Nat.pow_le_pow_right (by omega) (by omega)
      have h7 : 1 * 10 ^ l.length ≤ m * 10 ^ l.length := Nat.mul_le_mul_right _ (by omega)
      have h8 : (10 : Nat) ^ 19 = 10000000000000000000 := by decide
      omega

theorem Inv.cell {N : Nat} {w wr : World} {g m I : Nat} {l : List UInt8} (h : Inv N w wr g m I l) (hI : 1 ≤ I) : wr.cell? ⟨g, I - 1, none⟩ = some (.int .u8 0) := by
  rw [cell_of_row wr g (I - 1) _ 27 (0, 0) h.2.1]
  rw [List.getElem?_toArray, List.getElem?_append_left (by simp; omega), List.getElem?_replicate, if_pos (by omega)]

theorem Inv.free {N : Nat} {w wr : World} {g m I : Nat} {l : List UInt8} (h : Inv N w wr g m I l) (j : Nat) : wr.frozen? ⟨g, j, none⟩ = false := frozen_of_row wr g j _ 27 h.2.1

/-- The byte of the last digit. -/
def low (m : Nat) : UInt8 := UInt8.ofNat (48 + m % 10)
theorem low_toNat (m : Nat) : (low m).toNat = 48 + m % 10 := by
  have : m % 10 < 10 := Nat.mod_lt _ (by omega)
  simp [low]
  omega
theorem low_dig (m : Nat) : dig (low m) = true := by
  rw [dig_iff, low_toNat]
  omega

theorem Inv.put {N : Nat} {w wr : World} {g m I : Nat} {l : List UInt8} (h : Inv N w wr g m I l) (hI : 1 ≤ I) :
    (wr.setCell ⟨g, I - 1, none⟩ (.int .u8 (48 + (m : Int) % 10))).heap[g]? = some (.cells (List.replicate (I - 1) (Value.int .u8 0) ++ vals (low m :: l)).toArray 27 (0, 0)) ∧
      Below g w (wr.setCell ⟨g, I - 1, none⟩ (.int .u8 (48 + (m : Int) % 10))) := by
  refine ⟨?_, h.2.2.2.2.2.setCell (Nat.le_refl _) _⟩
  rw [heap_setCell_same wr g (I - 1) _ 27 _ h.2.1]
  have e : (48 + (m : Int) % 10) = ((low m).toNat : Int) := by rw [low_toNat]; omega
  rw [e]
  congr 2
  have e2 : List.replicate I (Value.int .u8 0) = List.replicate (I - 1) (Value.int .u8 0) ++ [Value.int .u8 0] := by
    rw [← List.replicate_succ', show I - 1 + 1 = I by omega]
  rw [e2]
  simp [vals]

theorem val_step {N m : Nat} {l : List UInt8} (h : N = m * 10 ^ l.length + dval l) : N = (m / 10) * 10 ^ (low m :: l).length + dval (low m :: l) := by
  rw [dval_cons, low_toNat, h]
  simp only [List.length_cons, Nat.pow_succ]
  have e : m = m / 10 * 10 + m % 10 := by omega
  have e2 : 48 + m % 10 - 48 = m % 10 := by omega
  rw [e2]
  have : m * 10 ^ l.length = (m / 10 * 10 + m % 10) * 10 ^ l.length := by rw [← e]
  rw [this, Nat.add_mul, Nat.mul_assoc, Nat.mul_comm 10]
  omega

theorem allDig_cons (c : UInt8) (l : List UInt8) : allDig (c :: l) = (dig c && allDig l) := by simp [allDig]

theorem Inv.step {N : Nat} {w wr : World} {g m I : Nat} {l : List UInt8} (h : Inv N w wr g m I l) (hI : 1 ≤ I) (hm : 10 ≤ m) :
    Inv N w (wr.setCell ⟨g, I - 1, none⟩ (.int .u8 (48 + (m : Int) % 10))) g (m / 10) (I - 1) (low m :: l) := by
  have hp := h.put hI
  obtain ⟨h1, _, h3, h4, _, _⟩ := h
  exact ⟨by simp; omega, hp.1, by rw [allDig_cons, low_dig, h3]; rfl, val_step h4, .inr (by omega), hp.2⟩

theorem Inv.stop {N : Nat} {w wr : World} {g m I : Nat} {l : List UInt8} (h : Inv N w wr g m I l) (hm : m < 10) : Canon (low m :: l) ∧ dval (low m :: l) = N := by
  obtain ⟨h1, _, h3, h4, h5, _⟩ := h
  refine ⟨⟨by rw [allDig_cons, low_dig, h3]; rfl, ?_⟩, ?_⟩
  · rcases h5 with rfl | h5
    · exact .inl rfl
    · refine .inr ⟨low m, l, rfl, ?_⟩
      intro e
      have := low_toNat m
      rw [e] at this
      have h48 : (48 : UInt8).toNat = 48 := rfl
      omega
  · have := val_step h4
    rw [show m / 10 = 0 by omega, Nat.zero_mul, Nat.zero_add] at this
    exact this.symm

theorem slice_back (g I : Nat) (n : Nat) (h1 : 6 ≤ I) (h2 : I + n = 25) (h3 : 1 ≤ n) (w : World) :
    (Instr.sliceAt 27 (.pointer (some ⟨g, 0, none⟩)) (some (.int .i64 ((I : Int) - 1))) none none).run Try.prog w = .ok (.slice (some ⟨g, I - 1, none⟩) n n) w := by
  have ha : Try.prog.arrayLen 27 = 24 := by kernel_rfl
  have he : Try.prog.elem 27 = 5 := by kernel_rfl
  have hs : (sizeOf 5).run Try.prog w = .ok 1 w := by kernel_rfl
  rw [run_sliceAt_array_l (P := Try.prog) w 27 ⟨g, 0, none⟩ (by kernel_rfl) .i64 ((I : Int) - 1) (by omega) (by rw [ha]; omega), he, hs, ha]
  have e : ((I : Int) - 1).toNat = I - 1 := by omega
  simp only [Result.andThen_ok, slicedAt, e]
  rw [if_neg (show ¬ (24 = I - 1) by omega), show 24 - (I - 1) = n by omega]
  simp [Addr.add_lit]

theorem bytes_back {w wr : World} {g I : Nat} {L : List UInt8} (h : wr.heap[g]? = some (.cells (List.replicate I (Value.int .u8 0) ++ vals L).toArray 27 (0, 0))) :
    (convert 28 9 (.slice (some ⟨g, I, none⟩) L.length L.length)).run Try.prog wr = .ok (.string ⟨L.toArray⟩) wr := by
  refine run_convert_bytes_back (P := Try.prog) wr 28 9 5 ⟨g, I, none⟩ L.length L Try.underlying28 Try.underlying5 Try.underlying9 ?_
  intro j hj
  simp only [Addr.add_lit]
  rw [cell_of_row wr g (I + j) _ 27 (0, 0) h]
  simp [vals, hj]

theorem itoa_mk {N : Nat} {w w' : World} {L : List UInt8} (h : Canon L ∧ dval L = N ∧ L.length ≤ 24) (hb : Below w.heap.size w w') : ItoaSays N w (.returned (.string ⟨L.toArray⟩)) w' :=
  ⟨_, rfl, by simpa using h.1, by simpa using h.2.1, hb, by rw [Lib.size_eq]; simpa using h.2.2⟩

set_option maxHeartbeats 400000 in
theorem itoa_any (N : Nat) (w : World) (hN : N ≤ 9223372036854775807) :
    Calls Try.prog 6 #[.int .i64 N] w (ItoaSays N w) := by
  go_enter Try.func6, Try.ntmps6
  go_wp2
  go_loopw [0, 4] (fun n i wr => ∃ m I : Nat, n = .int .i64 m ∧ i = .int .i64 I ∧ 6 ≤ I ∧ I ≤ 24 ∧ m ≤ 9223372036854775807 ∧ Hid (∃ l, Inv N w wr w.heap.size m I l)) (fun n i wr => (intOf i).toNat)
  case atStart => exact ⟨N, 24, rfl, rfl, by omega, by omega, hN, [], rfl, heap_alloc_new _ _, rfl, by simp [dval], .inl rfl, (Below.refl _ _).alloc (Nat.le_refl _) _⟩
  case round =>
    obtain ⟨m, I, rfl, rfl, hI1, hI2, hm, HI⟩ := hrel
    obtain ⟨l, hl⟩ := HI.out
    have hcell := hl.cell (by omega)
    have hfree := hl.free (I - 1)
    have HL : Hid (Inv N w wr w.heap.size m I l) := hl
    clear hl HI
    have hi0 : ((I : Int) - 1 == 0) = false := by simp; omega
    by_cases h10 : m < 10
    · have hm0 : ((m : Int) / 10 == 0) = true := by simp; omega
      have hsl := slice_back w.heap.size I (low m :: l).length hI1 (by have := HL.out.1; simp; omega) (by simp)
      have hcv := bytes_back (w := w) (HL.out.put (by omega)).1
      have HS : Hid (Canon (low m :: l) ∧ dval (low m :: l) = N ∧ (low m :: l).length ≤ 24) := ⟨(HL.out.stop h10).1, (HL.out.stop h10).2, by have := HL.out.1; simp; omega⟩
      have HB : Hid (Below w.heap.size w (wr.setCell ⟨w.heap.size, I - 1, none⟩ (.int .u8 (48 + (m : Int) % 10)))) := (HL.out.put (by omega)).2
      generalize low m :: l = L at hsl hcv HS
      clear HL
      go_wp2
      go_ret
      exact itoa_mk HS.out HB.out
    · have hm0 : ((m : Int) / 10 == 0) = false := by simp; omega
      have HN : Hid (Inv N w (wr.setCell ⟨w.heap.size, I - 1, none⟩ (.int .u8 (48 + (m : Int) % 10))) w.heap.size (m / 10) (I - 1) (low m :: l)) := HL.out.step (by omega) (by omega)
      have hg := HN.out.ge hN
      clear HL
      go_wp2
      go_roundw
      case rel => exact ⟨m / 10, I - 1, by go_num, by go_num, hg.1, by omega, by omega, _, HN.out⟩
      case measure => simp [intOf]; omega

end Go.Proofs.Qxb6617696a
