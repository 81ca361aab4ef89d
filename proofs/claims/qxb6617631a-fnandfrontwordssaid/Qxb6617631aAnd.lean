/-
  pipeline.and and pipeline.ZZand, out of strings.Join's contract.
-/
import Derived.Test.Qxb6617631aSums
import Derived.Lib.Join
namespace Go.Proofs.Qxb6617631a
open Go.RowKit
set_option linter.unusedVariables false

/-- The call gives the string whose bytes are l; what was there before stands. -/
def GivesStr (l : List UInt8) (w : World) (e : Ending) (w' : World) : Prop := ∃ r : ByteArray, e = .returned (.string r) ∧ r.data.toList = l ∧ Below w.heap.size w w'
theorem givesStr_mk {l : List UInt8} {w w' : World} {r : ByteArray} (h : r.data.toList = l) (hb : Below w.heap.size w w') : GivesStr l w (.returned (.string r)) w' := ⟨r, rfl, h, hb⟩

def bs (xs : List ByteArray) : List (List UInt8) := xs.map (·.data.toList)

/-- What strings.Join's contract says at this program. -/
def JoinSays : Prop := ∀ (bk o c : Nat) (xs : List ByteArray) (sep : ByteArray) (w : World)
    (_ : ∀ (j : Nat) x, xs[j]? = some x → w.cell? ⟨bk, o + j, none⟩ = some (.string x))
    (_ : bk < w.heap.size) (_ : xs.length ≤ 140737488355328) (_ : xs.length ≤ c)
    (_ : (Lib.join (bs xs) sep.data.toList).length ≤ 140737488355328),
    Calls Try.prog 11 #[.slice (some ⟨bk, o, none⟩) xs.length c, .string sep] w (GivesStr (Lib.join (bs xs) sep.data.toList) w)

/-- What 'and' gives for the words ys and, behind them, z. -/
def andOf (ys : List ByteArray) (z : ByteArray) : List UInt8 :=
  if ys = [] then z.data.toList else Lib.join (bs ys) [44, 32] ++ [32, 97, 110, 100, 32] ++ z.data.toList

set_option maxHeartbeats 400000 in
theorem and_one (bk o c : Nat) (z : ByteArray) (w : World) (hz : w.cell? ⟨bk, o, none⟩ = some (.string z)) :
    Calls Try.prog 10 #[.slice (some ⟨bk, o, none⟩) 1 c] w (GivesStr z.data.toList w) := by
  go_enter Try.func10, Try.ntmps10
  go_wp2
  go_ret
  exact givesStr_mk rfl (Below.refl _ _)

set_option maxHeartbeats 400000 in
theorem and_many (J : JoinSays) (bk o c : Nat) (ys : List ByteArray) (z : ByteArray) (w : World)
    (hcells : ∀ (j : Nat) x, ys[j]? = some x → w.cell? ⟨bk, o + j, none⟩ = some (.string x)) (hz : w.cell? ⟨bk, o + ys.length, none⟩ = some (.string z))
    (hbk : bk < w.heap.size) (hne : 0 < ys.length) (hN : ys.length ≤ 1048576) (hcap : ys.length + 1 ≤ c) (hcm : c ≤ maxLen) (hzs : z.size ≤ 1048576)
    (hlen : (Lib.join (bs ys) [44, 32]).length ≤ 8388608) :
    Calls Try.prog 10 #[.slice (some ⟨bk, o, none⟩) (ys.length + 1) c] w (GivesStr (Lib.join (bs ys) [44, 32] ++ [32, 97, 110, 100, 32] ++ z.data.toList) w) := by
  have HC : Hid (∀ (j : Nat) x, ys[j]? = some x → w.cell? ⟨bk, o + j, none⟩ = some (.string x)) := hcells
  clear hcells
  unfold maxLen at hcm
  go_enter Try.func10, Try.ntmps10
  go_wp2_with fail
  refine (J bk o c ys ⟨#[44, 32]⟩ w HC.out hbk (by omega) (by omega) (by exact Nat.le_trans hlen (by omega))).mono ?_
  rintro e w1 ⟨r, rfl, hr, hb⟩
  have hrs : r.size ≤ 8388608 := by rw [Lib.size_eq, hr]; exact hlen
  have HR : Hid (r.data.toList = Lib.join (bs ys) [44, 32]) := hr
  clear hr
  go_wp2
  go_ret
  exact givesStr_mk (by simp [HR.out]) hb

theorem and_any (J : JoinSays) (bk o c : Nat) (ys : List ByteArray) (z : ByteArray) (w : World)
    (hcells : ∀ (j : Nat) x, (ys ++ [z])[j]? = some x → w.cell? ⟨bk, o + j, none⟩ = some (.string x))
    (hbk : bk < w.heap.size) (hN : ys.length ≤ 1048576) (hcap : ys.length + 1 ≤ c) (hcm : c ≤ maxLen) (hzs : z.size ≤ 1048576)
    (hlen : (Lib.join (bs ys) [44, 32]).length ≤ 8388608) :
    Calls Try.prog 10 #[.slice (some ⟨bk, o, none⟩) (ys.length + 1) c] w (GivesStr (andOf ys z) w) := by
  unfold andOf
  by_cases hne : ys = []
  · subst hne
    simp only [if_pos, List.length_nil, Nat.zero_add]
    exact and_one bk o c z w (by simpa using hcells 0 z rfl)
  · rw [if_neg hne]
    have hp : 0 < ys.length := List.length_pos_iff.2 hne
    refine and_many J bk o c ys z w (fun j x hx => hcells j x ?_) (hcells _ z (by simp)) hbk hp hN hcap hcm hzs hlen
    rw [List.getElem?_append_left (List.getElem?_eq_some_iff.1 hx).1]
    exact hx

set_option maxHeartbeats 400000 in
theorem zzand_any (J : JoinSays) (bk o c : Nat) (ys : List ByteArray) (z : ByteArray) (w : World)
    (hcells : ∀ (j : Nat) x, (ys ++ [z])[j]? = some x → w.cell? ⟨bk, o + j, none⟩ = some (.string x))
    (hbk : bk < w.heap.size) (hN : ys.length ≤ 1048576) (hcap : ys.length + 1 ≤ c) (hcm : c ≤ maxLen) (hzs : z.size ≤ 1048576)
    (hlen : (Lib.join (bs ys) [44, 32]).length ≤ 8388608) :
    Calls Try.prog 7 #[.slice (some ⟨bk, o, none⟩) (ys.length + 1) c] w (GivesStr (andOf ys z) w) := by
  have HC : Hid (Calls Try.prog 10 #[.slice (some ⟨bk, o, none⟩) (ys.length + 1) c] w (GivesStr (andOf ys z) w)) := and_any J bk o c ys z w hcells hbk hN hcap hcm hzs hlen
  clear hcells hlen
  go_enter Try.func7, Try.ntmps7
  go_wp2_with fail
  refine Calls.mono HC.out ?_
  rintro e w1 ⟨r, rfl, hr, hb⟩
  have HR : Hid _ := hr
  clear hr
  go_wp2
  go_ret
  exact givesStr_mk HR.out hb

end Go.Proofs.Qxb6617631a
