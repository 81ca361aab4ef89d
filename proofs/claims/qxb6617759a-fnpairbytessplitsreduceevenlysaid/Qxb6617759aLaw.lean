/-
  THE WALK OF FnPairBytesSplitsReduceEvenly.
-/
import Derived.Test.Qxb6617759aPair
namespace Go.Proofs.Qxb6617759a
open Go.RowKit
set_option linter.unusedVariables false

def Yes (w : World) (e : Ending) (w' : World) : Prop := e = .returned (.bool true) ∧ Below w.heap.size w w'
theorem Yes.mk {w w' : World} (h : Below w.heap.size w w') : Yes w (.returned (.bool true)) w' := ⟨rfl, h⟩
theorem Yes.of {w w' : World} {b : Bool} (hb : b = true) (h : Below w.heap.size w w') : Yes w (.returned (.bool b)) w' := ⟨by rw [hb], h⟩

set_option maxHeartbeats 400000 in
theorem bytes_far (m bpp r : Int) (a : Option Addr) (len cap : Nat) (w : World) (h : 1048576 < len) :
    Calls Try.prog 4 #[.int .i64 m, .int .i64 bpp, .slice a len cap, .int .i64 r] w fun e w' => e = .returned (.bool false) ∧ w' = w := by
  go_enter Try.func4, Try.ntmps4
  go_wp2
  go_ret
  exact ⟨rfl, rfl⟩

set_option maxHeartbeats 400000 in
theorem bytes_near (m bpp r : Int) (a : Option Addr) (len cap : Nat) (w : World) (h : len ≤ 1048576) :
    Calls Try.prog 4 #[.int .i64 m, .int .i64 bpp, .slice a len cap, .int .i64 r] w fun e w' => e = .returned (.bool true) ∧ w' = w := by
  go_enter Try.func4, Try.ntmps4
  go_wp2
  go_ret
  exact ⟨rfl, rfl⟩

set_option maxHeartbeats 400000 in
theorem law_far (m bpp r : Int) (a : Option Addr) (len cap : Nat) (w : World) (h : 1048576 < len) :
    Calls Try.prog 3 #[.int .i64 m, .int .i64 bpp, .slice a len cap, .int .i64 r] w (Yes w) := by
  go_enter Try.func3, Try.ntmps3
  go_wp2_with fail
  refine (bytes_far m bpp r a len cap w h).mono ?_
  rintro e w1 ⟨rfl, rfl⟩
  go_wp2
  go_ret
  exact Yes.mk (Below.refl _ _)

set_option maxHeartbeats 400000 in
theorem law_long (m bpp r : Int) (a : Option Addr) (len cap : Nat) (w : World) (h : len ≤ 1048576) (h2 : 65536 < len) :
    Calls Try.prog 3 #[.int .i64 m, .int .i64 bpp, .slice a len cap, .int .i64 r] w (Yes w) := by
  go_enter Try.func3, Try.ntmps3
  go_wp2_with fail
  refine (bytes_near m bpp r a len cap w h).mono ?_
  rintro e w1 ⟨rfl, rfl⟩
  go_wp2
  go_ret
  exact Yes.mk (Below.refl _ _)

set_option maxHeartbeats 400000 in
theorem law_maps (m bpp r : Int) (a : Option Addr) (len cap : Nat) (w : World) (h : len ≤ 65536) (h2 : m < 1 ∨ 65536 < m) :
    Calls Try.prog 3 #[.int .i64 m, .int .i64 bpp, .slice a len cap, .int .i64 r] w (Yes w) := by
  rcases h2 with h2 | h2
  · go_enter Try.func3, Try.ntmps3
    go_wp2_with fail
    refine (bytes_near m bpp r a len cap w (by omega)).mono ?_
    rintro e w1 ⟨rfl, rfl⟩
    go_wp2
    go_ret
    exact Yes.mk (Below.refl _ _)
  · have h3 : 1 ≤ m := by omega
    go_enter Try.func3, Try.ntmps3
    go_wp2_with fail
    refine (bytes_near m bpp r a len cap w (by omega)).mono ?_
    rintro e w1 ⟨rfl, rfl⟩
    go_wp2
    go_ret
    exact Yes.mk (Below.refl _ _)

set_option maxHeartbeats 400000 in
theorem law_index (m bpp r : Int) (a : Option Addr) (len cap : Nat) (w : World) (h : len ≤ 65536) (hm1 : 1 ≤ m) (hm2 : m ≤ 65536) (h2 : r < 0 ∨ (len : Int) ≤ r) :
    Calls Try.prog 3 #[.int .i64 m, .int .i64 bpp, .slice a len cap, .int .i64 r] w (Yes w) := by
  rcases h2 with h2 | h2
  · go_enter Try.func3, Try.ntmps3
    go_wp2_with fail
    refine (bytes_near m bpp r a len cap w (by omega)).mono ?_
    rintro e w1 ⟨rfl, rfl⟩
    go_wp2
    go_ret
    exact Yes.mk (Below.refl _ _)
  · have h3 : 0 ≤ r := by omega
    go_enter Try.func3, Try.ntmps3
    go_wp2_with fail
    refine (bytes_near m bpp r a len cap w (by omega)).mono ?_
    rintro e w1 ⟨rfl, rfl⟩
    go_wp2
    go_ret
    exact Yes.mk (Below.refl _ _)

set_option maxHeartbeats 400000 in
theorem law_neg (m bpp : Int) (b off len cap r : Nat) (v : Int) (w : World) (h : len ≤ 65536) (hm1 : 1 ≤ m) (hm2 : m ≤ 65536) (hr : r < len)
    (hc : w.cell? ⟨b, off + r, none⟩ = some (.int .i64 v)) (hv : v < 0) :
    Calls Try.prog 3 #[.int .i64 m, .int .i64 bpp, .slice (some ⟨b, off, none⟩) len cap, .int .i64 r] w (Yes w) := by
  go_enter Try.func3, Try.ntmps3
  go_wp2_with fail
  refine (bytes_near m bpp r _ len cap w (by omega)).mono ?_
  rintro e w1 ⟨rfl, rfl⟩
  go_wp2
  go_ret
  exact Yes.mk (Below.refl _ _)

/-- The struct lies at the first new block; what was there before stands. -/
def Kept (w wr : World) (M : Nat) (bpp : Int) (b off len cap : Nat) : Prop :=
  wr.heap[w.heap.size]? = some (.cells #[.string ⟨#[]⟩, .int .i64 0, .slice none 0 0, .string ⟨#[]⟩, .string ⟨#[]⟩, .slice none 0 0, .string ⟨#[]⟩, .string ⟨#[]⟩, .int .i64 M, .int .i64 0, .int .i64 bpp, .slice (some ⟨b, off, none⟩) len cap] 26 (0, 0)) ∧
  Below w.heap.size w wr

theorem Kept.cells {w wr : World} {M : Nat} {bpp : Int} {b off len cap : Nat} (h : Kept w wr M bpp b off len cap) :
    wr.cell? ⟨w.heap.size, 0, none⟩ = some (.string ⟨#[]⟩) ∧ wr.cell? ⟨w.heap.size, 1, none⟩ = some (.int .i64 0) ∧ wr.cell? ⟨w.heap.size, 2, none⟩ = some (.slice none 0 0) ∧
    wr.cell? ⟨w.heap.size, 3, none⟩ = some (.string ⟨#[]⟩) ∧ wr.cell? ⟨w.heap.size, 4, none⟩ = some (.string ⟨#[]⟩) ∧ wr.cell? ⟨w.heap.size, 5, none⟩ = some (.slice none 0 0) ∧
    wr.cell? ⟨w.heap.size, 6, none⟩ = some (.string ⟨#[]⟩) ∧ wr.cell? ⟨w.heap.size, 7, none⟩ = some (.string ⟨#[]⟩) ∧ wr.cell? ⟨w.heap.size, 8, none⟩ = some (.int .i64 M) ∧
    wr.cell? ⟨w.heap.size, 9, none⟩ = some (.int .i64 0) ∧ wr.cell? ⟨w.heap.size, 10, none⟩ = some (.int .i64 bpp) ∧ wr.cell? ⟨w.heap.size, 11, none⟩ = some (.slice (some ⟨b, off, none⟩) len cap) := by
  have e := fun j => cell_of_row wr w.heap.size j _ 26 (0, 0) h.1
  refine ⟨e 0, e 1, e 2, e 3, e 4, e 5, e 6, e 7, e 8, e 9, e 10, e 11⟩

theorem Kept.later {w wr w' : World} {M : Nat} {bpp : Int} {b off len cap : Nat} (h : Kept w wr M bpp b off len cap) (hb : Below wr.heap.size wr w') : Kept w w' M bpp b off len cap := by
  have hlt := (Array.getElem?_eq_some_iff.1 h.1).1
  refine ⟨?_, h.2.trans (hb.mono h.2.size)⟩
  rw [hb.block _ hlt]
  exact h.1

set_option maxHeartbeats 1000000 in
theorem law_in (M V : Nat) (bpp : Int) (b off len cap r : Nat) (w : World) (h : len ≤ 65536) (hm1 : 1 ≤ M) (hm2 : M ≤ 65536) (hr : r < len) (hb : b < w.heap.size)
    (hc : w.cell? ⟨b, off + r, none⟩ = some (.int .i64 V)) (hV : V ≤ 9223372036854775807) :
    Calls Try.prog 3 #[.int .i64 M, .int .i64 bpp, .slice (some ⟨b, off, none⟩) len cap, .int .i64 r] w (Yes w) := by
  have hnl : ¬ len ≤ r := by omega
  go_enter Try.func3, Try.ntmps3
  go_wp2_with fail
  refine (bytes_near M bpp r _ len cap w (by omega)).mono ?_
  rintro e w1 ⟨rfl, rfl⟩
  go_wp2
  go_loopw [11, 12, 13, 14] (fun su fi pr i wr => ∃ k S F P : Nat, k ≤ M ∧ i = .int .i64 k ∧ su = .int .i64 S ∧ fi = .int .i64 F ∧ pr = .int .i64 P ∧ S ≤ V ∧ F ≤ 9223372036854775807 ∧ P ≤ 9223372036854775807 ∧
      Hid (S = upto V M k ∧ (0 < k → F = share V M 0 ∧ P = share V M (k - 1)) ∧ Kept w1 wr M bpp b off len cap)) (fun _ _ _ i _ => M - (intOf i).toNat)
  case atStart => exact ⟨0, 0, 0, 0, Nat.zero_le _, rfl, rfl, rfl, rfl, by omega, by omega, by omega, (upto_zero V M).symm, by omega, heap_alloc_new _ _, (Below.refl _ _).alloc (Nat.le_refl _) _⟩
  case round =>
    obtain ⟨k, S, F, P, hk, rfl, rfl, rfl, rfl, hSV, hF, hP, HK⟩ := hrel
    by_cases hlt : k < M
    · have hs1 := upto_le V M (k + 1) hm1 (by omega)
      have HU : Hid (upto V M (k + 1) = S + share V M k) := by rw [upto_succ, ← HK.out.1]; exact rfl
      have hs2 : S + share V M k ≤ V := by have := HU.out; omega
      obtain ⟨c0, c1, c2, c3, c4, c5, c6, c7, c8, c9, c10, c11⟩ := HK.out.2.2.cells
      have HC : Hid (b < wr.heap.size ∧ wr.cell? ⟨b, off + r, none⟩ = some (.int .i64 V)) :=
        ⟨Nat.lt_of_lt_of_le hb HK.out.2.2.2.size, (HK.out.2.2.2.cell (p := ⟨b, off + r, none⟩) hb).trans hc⟩
      clear hc
      go_wp2_with fail
      refine (pair_any V M k r bpp b off len cap wr hV hm1 hm2 hlt hr h HC.out.1 HC.out.2).mono ?_
      rintro e w2 ⟨rfl, hb2⟩
      have HN : Hid (Kept w1 w2 M bpp b off len cap) := HK.out.2.2.later hb2
      clear hb2 c0 c1 c2 c3 c4 c5 c6 c7 c8 c9 c10 c11 HC
      by_cases hk0 : k ≤ 0
      · have HF : Hid (share V M k = share V M 0 ∧ share V M k = share V M (k + 1 - 1)) := by rw [Nat.le_zero.1 hk0]; exact ⟨rfl, rfl⟩
        generalize share V M k = sh at HU hs2 HF
        go_wp2
        go_roundw
        case rel => exact ⟨k + 1, S + sh, sh, sh, by omega, by go_num, by go_num, rfl, rfl, hs2, by omega, by omega, HU.out.symm, fun _ => ⟨HF.out.1, HF.out.2⟩, HN.out⟩
        case measure => simp [intOf]; omega
      · have hfp := HK.out.2.1 (by omega)
        have hd0 := share_down V M 0 k (by omega)
        have hd1 := share_down V M (k - 1) k (by omega)
        have HF : Hid (F = share V M 0 ∧ share V M k = share V M (k + 1 - 1)) := ⟨hfp.1, by rw [Nat.add_sub_cancel]⟩
        have hle1 : share V M k ≤ P := by omega
        have hle2 : F ≤ share V M k + 1 := by omega
        have hle3 : share V M k ≤ F := by omega
        clear hfp hd0 hd1 HK
        generalize share V M k = sh at HU hs2 HF hle1 hle2 hle3
        go_wp2
        go_roundw
        case rel => exact ⟨k + 1, S + sh, F, sh, by omega, by go_num, by go_num, rfl, rfl, hs2, by omega, by omega, HU.out.symm, fun _ => ⟨HF.out.1, HF.out.2⟩, HN.out⟩
        case measure => simp [intOf]; omega
    · have HE : Hid (S = V) := by
        have h1 := HK.out.1
        rw [show k = M by omega, upto_all V M hm1] at h1
        exact h1
      go_wp2
      go_ret
      exact Yes.of (by rw [HE.out]; simp) HK.out.2.2.2

end Go.Proofs.Qxb6617759a
