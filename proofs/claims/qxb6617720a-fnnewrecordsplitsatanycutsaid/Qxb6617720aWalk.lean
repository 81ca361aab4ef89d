/-
  fixedwidth.NewRecord, and the law over it.
-/
import Derived.Test.Qxb6617720aRows
import Derived.WalkKit
import Derived.WalkSpells
import Derived.WalkLawsBesides
namespace Go.Proofs.Qxb6617720a
open Go.RowKit
set_option linter.unusedVariables false

theorem info5 : (Try.prog.info? 5).map (fun i => (i.zero, i.size, i.bytes)) = some (some (.int .u8 0), 1, 1) := by kernel_rfl

/-- Block g holds just the bytes xs. -/
def Row (w : World) (g : Nat) (xs : List Value) : Prop := w.heap[g]? = some (.cells xs.toArray 5 (0, 0))
theorem Row.lt {w : World} {g : Nat} {xs : List Value} (h : Row w g xs) : g < w.heap.size := (Array.getElem?_eq_some_iff.1 h).1
theorem Row.at {w : World} {g : Nat} {xs : List Value} (h : Row w g xs) (j : Nat) (v : Value) (hj : xs[j]? = some v) : w.cell? ⟨g, j, none⟩ = some v := by
  rw [cell_of_row w g j _ 5 (0, 0) h]
  simpa using hj
theorem Row.free {w : World} {g : Nat} {xs : List Value} (h : Row w g xs) (j : Nat) : w.frozen? ⟨g, j, none⟩ = false := frozen_of_row w g j _ 5 h
theorem Row.set {w : World} {g : Nat} {xs : List Value} (h : Row w g xs) (j : Nat) (v : Value) : Row (w.setCell ⟨g, j, none⟩ v) g (xs.set j v) := by
  unfold Row
  rw [heap_setCell_same w g j _ 5 _ h]
  simp
theorem Row.later {w w' : World} {g : Nat} {xs : List Value} (h : Row w g xs) (hb : Below w.heap.size w w') : Row w' g xs := by
  unfold Row
  rw [hb.block g h.lt]
  exact h

theorem row_of_own {w : World} {B g n : Nat} {xs : List Value} (h : w.ownsRow B 5 1 (.slice (some ⟨g, 0, none⟩) n n) n xs) : Row w g xs := by
  rcases h.2 with ⟨h', _⟩ | ⟨g', cap, cur, h', _, hg, _, _, hcs, ht⟩
  · simp at h'
  · simp only [Value.slice.injEq, Option.some.injEq, Addr.mk.injEq, and_true, true_and] at h'
    obtain ⟨rfl, rfl⟩ := h'
    rw [List.take_of_length_le (by simp [hcs])] at ht
    unfold Row
    rw [hg, ← ht]

def bl : Value := .int .u8 32
def ze : Value := .int .u8 0

/-- k blanks have been laid. -/
def Part (w wr : World) (g n k : Nat) : Prop := Row wr g (List.replicate k bl ++ List.replicate (n - k) ze) ∧ Below g w wr

theorem Part.step {w wr : World} {g n k : Nat} (h : Part w wr g n k) (hk : k < n) : Part w (wr.setCell ⟨g, k, none⟩ bl) g n (k + 1) := by
  refine ⟨?_, h.2.setCell (Nat.le_refl _) _⟩
  have := h.1.set k bl
  rw [List.set_append_right _ _ (by simp), show n - k = (n - (k + 1)) + 1 by omega, List.replicate_succ] at this
  simp only [List.length_replicate, Nat.sub_self, List.set_cons_zero] at this
  rw [show List.replicate (k + 1) bl = List.replicate k bl ++ [bl] from List.replicate_succ', List.append_assoc]
  exact this

def RecSays (n : Nat) (w : World) (e : Ending) (w' : World) : Prop := e = .returned (.slice (some ⟨w.heap.size, 0, none⟩) n n) ∧ Row w' w.heap.size (List.replicate n bl) ∧ Below w.heap.size w w'

set_option maxHeartbeats 400000 in
theorem rec_any (n : Nat) (w : World) (hn : n ≤ 131072) : Calls Try.prog 4 #[.int .i64 n] w (RecSays n w) := by
  obtain ⟨i0, hi, hz0, hz1, hz2⟩ := info_parts info5
  go_enter Try.func4, Try.ntmps4
  go_wp2_with (at_make; refine wpList_make_full _ rfl _ _ 23 rfl w.heap.size 5 i0 (.int .u8 0) 1 Try.underlying23 hi hz0 hz1 .i64 .i64 _ _ n rfl rfl rfl rfl (by rw [hz2]; omega) (by unfold maxLen; omega) (Nat.le_refl _) ?_)
  intro w1 hown hgrow
  have H1 : Hid (Part w w1 w.heap.size n 0) := by
    refine ⟨?_, (Below.refl _ _).grown hgrow (Nat.le_refl _) (by simp)⟩
    have := row_of_own hown
    rw [toList_madeCells_one] at this
    simpa [ze] using this
  clear hown hgrow
  go_wp2
  go_loopw [9] (fun i wr => ∃ k : Nat, k ≤ n ∧ i = .int .i64 k ∧ Hid (Part w wr w.heap.size n k)) (fun i _ => n - (intOf i).toNat)
  case atStart => exact ⟨0, Nat.zero_le _, rfl, H1⟩
  case round =>
    obtain ⟨k, hk, rfl, HP⟩ := hrel
    clear H1
    by_cases hlt : k < n
    · have hf := HP.out.1.free k
      have hc := HP.out.1.at k ze (by rw [List.getElem?_append_right (by simp), List.length_replicate, Nat.sub_self, List.getElem?_replicate, if_pos (by omega)])
      have HN : Hid (Part w (wr.setCell ⟨w.heap.size, k, none⟩ (.int .u8 32)) w.heap.size n (k + 1)) := HP.out.step hlt
      unfold ze at hc
      clear HP
      go_wp2
      go_roundw
      case rel => exact ⟨k + 1, by omega, by go_num, HN⟩
      case measure => simp [intOf]; omega
    · go_wp2
      go_ret
      obtain rfl : k = n := by omega
      exact ⟨rfl, by have := HP.out.1; simpa using this, HP.out.2⟩

def Yes (w : World) (e : Ending) (w' : World) : Prop := e = .returned (.bool true) ∧ Below w.heap.size w w'
theorem Yes.mk {w w' : World} (h : Below w.heap.size w w') : Yes w (.returned (.bool true)) w' := ⟨rfl, h⟩

set_option maxHeartbeats 400000 in
theorem law_out (a b : Int) (w : World) (h : (a < 0 ∨ 65536 < a) ∨ (0 ≤ a ∧ a ≤ 65536) ∧ (b < 0 ∨ 65536 < b)) : Calls Try.prog 3 #[.int .i64 a, .int .i64 b] w (Yes w) := by
  rcases h with (h | h) | ⟨⟨h1, h2⟩, h | h⟩
  · go_enter Try.func3, Try.ntmps3
    go_wp2
    go_ret
    exact Yes.mk (Below.refl _ _)
  · have h0 : 0 ≤ a := by omega
    go_enter Try.func3, Try.ntmps3
    go_wp2
    go_ret
    exact Yes.mk (Below.refl _ _)
  · go_enter Try.func3, Try.ntmps3
    go_wp2
    go_ret
    exact Yes.mk (Below.refl _ _)
  · have h0 : 0 ≤ b := by omega
    go_enter Try.func3, Try.ntmps3
    go_wp2
    go_ret
    exact Yes.mk (Below.refl _ _)

theorem rec_cast (x : Int) (n : Nat) (w : World) (hx : x = n) (hn : n ≤ 131072) : Calls Try.prog 4 #[.int .i64 x] w (RecSays n w) := by
  subst hx
  exact rec_any n w hn

set_option maxHeartbeats 400000 in
theorem law_in (A B : Nat) (w : World) (hA : A ≤ 65536) (hB : B ≤ 65536) : Calls Try.prog 3 #[.int .i64 A, .int .i64 B] w (Yes w) := by
  have heq := fun (a : Option Addr) (n c : Nat) (w : World) => Lib.run_eql_slice_nil (P := Try.prog) w 23 5 a n c 0 0 Try.underlying23
  go_enter Try.func3, Try.ntmps3
  go_wp2_with fail
  refine (rec_cast _ (A + B) w (by omega) (by omega)).mono ?_
  rintro e w1 ⟨rfl, hr1, hb1⟩
  have H1 : Hid (Row w1 w.heap.size (List.replicate (A + B) bl) ∧ Below w.heap.size w w1) := ⟨hr1, hb1⟩
  clear hr1 hb1
  go_wp2_with fail
  refine (rec_any A w1 (by omega)).mono ?_
  rintro e w2 ⟨rfl, hr2, hb2⟩
  have H2 : Hid (Row w2 w.heap.size (List.replicate (A + B) bl) ∧ Row w2 w1.heap.size (List.replicate A bl) ∧ Below w.heap.size w w2) := ⟨H1.out.1.later hb2, hr2, H1.out.2.trans (hb2.mono H1.out.2.size)⟩
  clear hr2 hb2 H1
  go_wp2_with fail
  refine (rec_any B w2 (by omega)).mono ?_
  rintro e w3 ⟨rfl, hr3, hb3⟩
  have H3 : Hid (Row w3 w.heap.size (List.replicate (A + B) bl) ∧ Row w3 w1.heap.size (List.replicate A bl) ∧ Row w3 w2.heap.size (List.replicate B bl) ∧ Below w.heap.size w w3) :=
    ⟨H2.out.1.later hb3, H2.out.2.1.later hb3, hr3, H2.out.2.2.trans (hb3.mono H2.out.2.2.size)⟩
  clear hr3 hb3 H2
  go_wp2
  go_loop [9] (fun i => ∃ k : Nat, k ≤ A + B ∧ i = .int .i64 k) (fun i => A + B - (intOf i).toNat)
  case atStart => exact ⟨0, Nat.zero_le _, rfl⟩
  case round =>
    obtain ⟨k, hk, rfl⟩ := hrel
    by_cases hlt : k < A + B
    · have hc : w3.cell? ⟨w.heap.size, k, none⟩ = some (.int .u8 32) := H3.out.1.at k bl (by simp [hlt])
      by_cases hkA : k < A
      · have hl : w3.cell? ⟨w1.heap.size, k, none⟩ = some (.int .u8 32) := H3.out.2.1.at k bl (by simp [hkA])
        go_wp2
        go_round
        case rel => exact ⟨k + 1, by omega, by go_num⟩
        case measure => simp [intOf]; omega
      · have hr : w3.cell? ⟨w2.heap.size, k - A, none⟩ = some (.int .u8 32) := H3.out.2.2.1.at (k - A) bl (by rw [List.getElem?_replicate, if_pos (by omega)])
        go_wp2
        go_round
        case rel => exact ⟨k + 1, by omega, by go_num⟩
        case measure => simp [intOf]; omega
    · go_wp2
      go_ret
      exact Yes.mk H3.out.2.2.2

theorem law (a b : Int) (w : World) : Calls Try.prog 3 #[.int .i64 a, .int .i64 b] w (Yes w) := by
  by_cases h : (a < 0 ∨ 65536 < a) ∨ (0 ≤ a ∧ a ≤ 65536) ∧ (b < 0 ∨ 65536 < b)
  · exact law_out a b w h
  · obtain ⟨A, rfl⟩ : ∃ A : Nat, a = A := ⟨a.toNat, by omega⟩
    obtain ⟨B, rfl⟩ : ∃ B : Nat, b = B := ⟨b.toNat, by omega⟩
    exact law_in A B w (by omega) (by omega)

end Go.Proofs.Qxb6617720a
