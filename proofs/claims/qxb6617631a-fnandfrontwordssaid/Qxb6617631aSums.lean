/-
  THE READERS: pipelineB1Sum, the two zzBytes. What they do to the world: nothing.
-/
import Derived.Test.Qxb6617631aRows
import Derived.WalkKit
import Derived.WalkSpells
import Derived.WalkLawsBesides
namespace Go.Proofs.Qxb6617631a
open Go.RowKit

/-- What the walks are told of a slice of strings: its elements 'ss'; where there is one, it lies at a plain address among the world's blocks. -/
def StrsAt (w : World) (a : Option Addr) (ss : List ByteArray) : Prop :=
  0 < ss.length → ∃ b off, a = some ⟨b, off, none⟩ ∧ b < w.heap.size ∧ ∀ i, i < ss.length → w.cell? ⟨b, off + i, none⟩ = some (.string (ss.getD i ByteArray.empty))

/-- The bytes of all strings. -/
def tot : List ByteArray → Nat
  | [] => 0
  | s :: r => s.size + tot r

theorem tot_append (a b : List ByteArray) : tot (a ++ b) = tot a + tot b := by
  induction a with
  | nil => simp [tot]
  | cons s r ih => simp [tot, ih]; omega

theorem tot_snoc (ss : List ByteArray) (k : Nat) (h : k < ss.length) : tot (ss.take (k + 1)) = tot (ss.take k) + (ss.getD k ByteArray.empty).size := by
  rw [List.take_succ_eq_append_getElem h, tot_append]
  simp [tot, List.getD, h]

/-- The call gives some int; the world is as it was. (Behind a name: the walk's own simp takes a bare '∃' apart.) -/
def SomeInt (w : World) (e : Ending) (w' : World) : Prop := ∃ m : Int, e = .returned (.int .i64 m) ∧ w' = w
theorem someInt_mk (m : Int) (w : World) : SomeInt w (.returned (.int .i64 m)) w := ⟨m, rfl, rfl⟩
/-- The call says yes or no; a yes brings 'p'; the world is as it was. -/
def YesMeans (p : Prop) (w : World) (e : Ending) (w' : World) : Prop := ∃ b : Bool, e = .returned (.bool b) ∧ w' = w ∧ (b = true → p)
theorem yes_mk {p : Prop} (h : p) (w : World) : YesMeans p w (.returned (.bool true)) w := ⟨true, rfl, rfl, fun _ => h⟩
theorem no_mk {p : Prop} (w : World) : YesMeans p w (.returned (.bool false)) w := ⟨false, rfl, rfl, by simp⟩

set_option maxHeartbeats 400000 in
theorem sum_none (a : Option Addr) (c : Nat) (n : Int) (w : World) :
    Calls Try.prog 6 #[.slice a 0 c, .int .i64 n] w (SomeInt w) := by
  go_enter Try.func6, Try.ntmps6
  go_wp2
  refine wp_loop_rounds 1 ?_
  rw [rounds_succ]
  go_wp2
  go_ret
  exact someInt_mk _ _

set_option maxHeartbeats 400000 in
theorem sum_some (b off c : Nat) (ss : List ByteArray) (n : Int) (w : World) (hl : ss.length ≤ 1048576)
    (hc : ∀ i, i < ss.length → w.cell? ⟨b, off + i, none⟩ = some (.string (ss.getD i ByteArray.empty))) :
    Calls Try.prog 6 #[.slice (some ⟨b, off, none⟩) ss.length c, .int .i64 n] w (SomeInt w) := by
  go_enter Try.func6, Try.ntmps6
  go_wp2
  go_loop [5, 6] (fun t i => ∃ (k : Nat) (q : Int), k ≤ ss.length ∧ i = .int .i64 k ∧ t = .int .i64 q) (fun _ i => ss.length - (intOf i).toNat)
  case atStart => exact ⟨0, n, Nat.zero_le _, rfl, rfl⟩
  case round =>
    obtain ⟨k, q, hk, rfl, rfl⟩ := hrel
    by_cases hlt : k < ss.length
    · have hcell := hc k hlt
      generalize ss.getD k ByteArray.empty = s at hcell
      clear hc
      go_wp2
      · go_ret
        exact someInt_mk _ _
      · go_round
        case rel => exact ⟨k + 1, _, by omega, by go_num, rfl⟩
        case measure => simp [intOf]; omega
    · go_wp2
      go_ret
      exact someInt_mk _ _

theorem sum_any (a : Option Addr) (c : Nat) (ss : List ByteArray) (n : Int) (w : World) (hl : ss.length ≤ 1048576) (hs : StrsAt w a ss) :
    Calls Try.prog 6 #[.slice a ss.length c, .int .i64 n] w (SomeInt w) := by
  by_cases h0 : 0 < ss.length
  · obtain ⟨b, off, rfl, _, hc⟩ := hs h0
    exact sum_some b off c ss n w hl hc
  · rw [show ss.length = 0 by omega]
    exact sum_none a c n w

/-! zzBytes_FnAndAppendOneWord -/
set_option maxHeartbeats 400000 in
theorem bytesA_far (a : Option Addr) (n c : Nat) (x : ByteArray) (w : World) (hl : 1048576 < n) :
    Calls Try.prog 5 #[.slice a n c, .string x] w fun e w' => e = .returned (.bool false) ∧ w' = w := by
  go_enter Try.func5, Try.ntmps5
  go_wp2
  go_ret
  exact ⟨rfl, rfl⟩

set_option maxHeartbeats 400000 in
theorem bytesA_none (a : Option Addr) (c : Nat) (x : ByteArray) (w : World) (hx : x.size ≤ maxLen) :
    Calls Try.prog 5 #[.slice a 0 c, .string x] w (YesMeans (x.size ≤ 1048576) w) := by
  unfold maxLen at hx
  by_cases h : x.size ≤ 1048576
  all_goals
    go_enter Try.func5, Try.ntmps5
    go_wp2
    refine wp_loop_rounds 1 ?_
    rw [rounds_succ]
    go_wp2
    go_ret
    first | exact yes_mk h _ | exact no_mk _

set_option maxHeartbeats 400000 in
theorem bytesA_some (b off c : Nat) (ss : List ByteArray) (x : ByteArray) (w : World) (hl : ss.length ≤ 1048576) (hx : x.size ≤ maxLen) (hm : ∀ s ∈ ss, s.size ≤ maxLen)
    (hc : ∀ i, i < ss.length → w.cell? ⟨b, off + i, none⟩ = some (.string (ss.getD i ByteArray.empty))) :
    Calls Try.prog 5 #[.slice (some ⟨b, off, none⟩) ss.length c, .string x] w (YesMeans (ss.length + tot ss + x.size ≤ 1048576) w) := by
  unfold maxLen at hx
  go_enter Try.func5, Try.ntmps5
  go_wp2
  go_loop [5, 6] (fun t i => ∃ k : Nat, k ≤ ss.length ∧ i = .int .i64 k ∧ t = .int .i64 ((ss.length + tot (ss.take k) : Nat) : Int) ∧ ss.length + tot (ss.take k) ≤ 1048576) (fun _ i => ss.length - (intOf i).toNat)
  case atStart => exact ⟨0, Nat.zero_le _, rfl, by simp [tot], by simpa [tot] using hl⟩
  case round =>
    obtain ⟨k, hk, rfl, rfl, hb⟩ := hrel
    by_cases hlt : k < ss.length
    · have hcell := hc k hlt
      have hsz : (ss.getD k ByteArray.empty).size ≤ maxLen := hm _ (by simp [List.getD, hlt])
      have HT : Hid (tot (ss.take (k + 1)) = tot (ss.take k) + (ss.getD k ByteArray.empty).size) := tot_snoc ss k hlt
      generalize ss.getD k ByteArray.empty = s at hcell HT hsz
      unfold maxLen at hsz
      generalize tot (ss.take k) = T at HT hb
      clear hc hm
      by_cases h1 : s.size ≤ 1048576
      · by_cases h2 : ss.length + T + s.size ≤ 1048576
        · go_wp2
          go_round
          case rel => exact ⟨k + 1, by omega, by go_num, by rw [HT.out]; go_num, by rw [HT.out]; omega⟩
          case measure => simp [intOf]; omega
        · go_wp2
          go_ret
          exact no_mk _
      · go_wp2
        go_ret
        exact no_mk _
    · have hke : k = ss.length := by omega
      have HE : Hid (tot (ss.take k) = tot ss) := by rw [hke, List.take_length]; exact rfl
      generalize tot (ss.take k) = T at HE hb
      clear hke
      by_cases h1 : x.size ≤ 1048576
      · by_cases h2 : ss.length + T + x.size ≤ 1048576
        · go_wp2
          go_ret
          exact yes_mk (by rw [← HE.out]; omega) _
        · go_wp2
          go_ret
          exact no_mk _
      · go_wp2
        go_ret
        exact no_mk _

theorem bytesA_any (a : Option Addr) (c : Nat) (ss : List ByteArray) (x : ByteArray) (w : World) (hx : x.size ≤ maxLen) (hm : ∀ s ∈ ss, s.size ≤ maxLen) (hs : StrsAt w a ss) :
    Calls Try.prog 5 #[.slice a ss.length c, .string x] w (YesMeans (ss.length + tot ss + x.size ≤ 1048576) w) := by
  by_cases hl : 1048576 < ss.length
  · exact (bytesA_far a ss.length c x w hl).mono fun e w' ⟨he, hw⟩ => ⟨false, he, hw, by simp⟩
  by_cases h0 : 0 < ss.length
  · obtain ⟨b, off, rfl, _, hc⟩ := hs h0
    exact bytesA_some b off c ss x w (by omega) hx hm hc
  · obtain rfl : ss = [] := List.eq_nil_of_length_eq_zero (by omega)
    exact (bytesA_none a c x w hx).mono fun e w' ⟨b, he, hw, hb⟩ => ⟨b, he, hw, fun h => by have := hb h; simp [tot]; omega⟩

end Go.Proofs.Qxb6617631a
