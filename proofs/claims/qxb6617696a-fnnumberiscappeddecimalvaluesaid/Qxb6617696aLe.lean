/-
  decimalLE at two numerals without leading noughts.
-/
import Derived.Test.Qxb6617696aNumber
import Derived.Deep.QuietTactic
import Derived.BigQuiet
namespace Go.Proofs.Qxb6617696a
open Go.RowKit
set_option linter.unusedVariables false

def LeSays (a b : List UInt8) (w : World) (e : Ending) (w' : World) : Prop := ∃ q : Bool, e = .returned (.bool q) ∧ Below w.heap.size w w' ∧ (q = true ↔ dval a ≤ dval b)
theorem le_mk {a b : List UInt8} {w w' : World} {q : Bool} (hb : Below w.heap.size w w') (h : q = true ↔ dval a ≤ dval b) : LeSays a b w (.returned (.bool q)) w' := ⟨q, rfl, hb, h⟩

theorem split_at (a : ByteArray) (k : Nat) (h : k < a.size) : a.data.toList = a.data.toList.take k ++ a[k] :: a.data.toList.drop (k + 1) := by
  have h1 := take_snoc a k h
  have h2 := List.take_append_drop (k + 1) a.data.toList
  rw [h1, List.append_assoc] at h2
  exact h2.symm

theorem le_part (a b : ByteArray) (k : Nat) (hk : k < a.size) (hkb : k < b.size) (hs : a.size = b.size) (ht : a.data.toList.take k = b.data.toList.take k) (ha : allDig a.data.toList = true) (h : a[k].toNat < b[k].toNat) :
    dval a.data.toList < dval b.data.toList := by
  have e1 := split_at a k hk
  have e2 := split_at b k hkb
  rw [e1, allDig_append, Bool.and_eq_true] at ha
  have ha2 := ha.2
  simp only [allDig, List.all_cons, Bool.and_eq_true] at ha2
  rw [e1, e2, ← ht]
  refine part_lt _ _ _ _ _ ha2.2 ?_ ha2.1 h
  simp only [List.length_drop, ← Lib.size_eq]
  omega

set_option maxHeartbeats 400000 in
theorem le_any (a b : ByteArray) (w : World) (ha : a.size ≤ 1048576) (hb : b.size ≤ 1048576) (ca : Canon a.data.toList) (cb : Canon b.data.toList) :
    Calls Try.prog 7 #[.string a, .string b] w (LeSays a.data.toList b.data.toList w) := by
  have HA : Hid (Canon a.data.toList) := ca
  have HB : Hid (Canon b.data.toList) := cb
  clear ca cb
  by_cases h1 : a.size < b.size
  · go_enter Try.func7, Try.ntmps7
    go_wp2
    go_ret
    refine le_mk (Below.refl _ _) ?_
    have := canon_lt HA.out HB.out (by rw [← Lib.size_eq, ← Lib.size_eq]; exact h1)
    simp
    omega
  by_cases h2 : b.size < a.size
  · go_enter Try.func7, Try.ntmps7
    go_wp2
    go_ret
    refine le_mk (Below.refl _ _) ?_
    have := canon_lt HB.out HA.out (by rw [← Lib.size_eq, ← Lib.size_eq]; exact h2)
    simp
    omega
  go_enter Try.func7, Try.ntmps7
  go_wp2
  go_loopw [5] (fun i wr => ∃ k : Nat, k ≤ a.size ∧ i = .int .i64 k ∧ Hid (a.data.toList.take k = b.data.toList.take k ∧ Below w.heap.size w wr)) (fun i _ => a.size - (intOf i).toNat)
  case atStart => exact ⟨0, Nat.zero_le _, rfl, rfl, Below.refl _ _⟩
  case round =>
    obtain ⟨k, hk, rfl, HK⟩ := hrel
    by_cases hlt : k < a.size
    · have hlb : k < b.size := by omega
      have hi1 : (k : Int) < (a.size : Int) := by omega
      have hi2 : (k : Int) < (b.size : Int) := by omega
      rcases Nat.lt_trichotomy a[k].toNat b[k].toNat with he | he | he
      · have hp := le_part a b k hlt hlb (by omega) HK.out.1 HA.out.1 he
        have HP : Hid (dval a.data.toList < dval b.data.toList) := hp
        clear hp
        go_wp2
        go_quiet (fail)
        go_wp2
        go_quiet (fail)
        go_wp2
        go_ret
        exact le_mk (below_drewN (below_drewN HK.out.2 _) _) (by have := HP.out; simp; omega)
      · have HN : Hid (a.data.toList.take (k + 1) = b.data.toList.take (k + 1)) := by
          rw [take_snoc a k hlt, take_snoc b k hlb, HK.out.1, UInt8.toNat_inj.1 he]; exact rfl
        have he1 : (a[k].toNat : Int) ≤ (b[k].toNat : Int) := by omega
        have he2 : (b[k].toNat : Int) ≤ (a[k].toNat : Int) := by omega
        clear he
        go_wp2
        go_quiet (fail)
        go_wp2
        go_roundw
        case rel => exact ⟨k + 1, by omega, by go_num, HN.out, below_drewN HK.out.2 _⟩
        case measure => simp [intOf]; omega
      · have hp := le_part b a k hlb hlt (by omega) HK.out.1.symm HB.out.1 he
        have HP : Hid (dval b.data.toList < dval a.data.toList) := hp
        clear hp
        go_wp2
        go_quiet (fail)
        go_wp2
        go_quiet (fail)
        go_wp2
        go_ret
        exact le_mk (below_drewN (below_drewN HK.out.2 _) _) (by have := HP.out; simp; omega)
    · go_wp2
      go_ret
      refine le_mk HK.out.2 ?_
      have := HK.out.1
      rw [List.take_of_length_le (by rw [← Lib.size_eq]; omega), List.take_of_length_le (by rw [← Lib.size_eq]; omega)] at this
      rw [this]
      simp

end Go.Proofs.Qxb6617696a
