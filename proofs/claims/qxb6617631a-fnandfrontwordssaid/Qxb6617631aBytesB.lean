/-
  zzBytes_FnAndFrontWords: it reads, and its yes bounds all lengths.
-/
import Derived.Test.Qxb6617631aSums
namespace Go.Proofs.Qxb6617631a
open Go.RowKit
set_option linter.unusedVariables false

/-- A slice of strings, opened: either it has no element, or it lies at a plain address. -/
theorem StrsAt.split {w : World} {a : Option Addr} {ss : List ByteArray} (h : StrsAt w a ss) :
    ss.length ≤ 0 ∨ ∃ b off, a = some ⟨b, off, none⟩ ∧ b < w.heap.size ∧ ∀ i, i < ss.length → w.cell? ⟨b, off + i, none⟩ = some (.string (ss.getD i ByteArray.empty)) := by
  by_cases h0 : 0 < ss.length
  · exact .inr (h h0)
  · exact .inl (by omega)

set_option maxHeartbeats 400000 in
theorem bytesB_far (a a' : Option Addr) (n n' c c' : Nat) (w : World) (hl : 1048576 < n) :
    Calls Try.prog 8 #[.slice a n c, .slice a' n' c'] w fun e w' => e = .returned (.bool false) ∧ w' = w := by
  go_enter Try.func8, Try.ntmps8
  go_wp2
  go_ret
  exact ⟨rfl, rfl⟩

theorem tot_take_le (ss : List ByteArray) (k : Nat) : tot (ss.take k) ≤ tot ss := by
  have := tot_append (ss.take k) (ss.drop k)
  rw [List.take_append_drop] at this
  omega

set_option maxHeartbeats 2000000 in
theorem bytesB_any (af aw : Option Addr) (cf cs : Nat) (fs ss : List ByteArray) (w : World) (hf : StrsAt w af fs) (hs : StrsAt w aw ss) (hmf : ∀ s ∈ fs, s.size ≤ maxLen) (hms : ∀ s ∈ ss, s.size ≤ maxLen) (hns : ss.length ≤ maxLen) :
    Calls Try.prog 8 #[.slice af fs.length cf, .slice aw ss.length cs] w (YesMeans (fs.length + tot fs + ss.length + tot ss ≤ 1048576) w) := by
  unfold maxLen at hns
  by_cases hfar : 1048576 < fs.length
  · exact (bytesB_far af aw fs.length ss.length cf cs w hfar).mono fun e w' ⟨he, hw⟩ => ⟨false, he, hw, by simp⟩
  have HF : Hid (∀ s ∈ fs, s.size ≤ maxLen) := hmf
  have HS : Hid (∀ s ∈ ss, s.size ≤ maxLen) := hms
  clear hmf hms
  rcases hf.split with hf0 | ⟨bf, of1, rfl, _, hcf⟩ <;> rcases hs.split with hs0 | ⟨bw, ow, rfl, _, hcs⟩ <;> clear hf hs
  all_goals
    go_enter Try.func8, Try.ntmps8
    go_wp2
    go_loop [5, 6] (fun t i => ∃ k : Nat, k ≤ fs.length ∧ i = .int .i64 k ∧ t = .int .i64 ((fs.length + tot (fs.take k) : Nat) : Int) ∧ fs.length + tot (fs.take k) ≤ 1048576) (fun _ i => fs.length - (intOf i).toNat)
    case atStart => exact ⟨0, Nat.zero_le _, rfl, by simp [tot], by simp [tot]; omega⟩
    case round =>
      obtain ⟨k, hk, rfl, rfl, hb⟩ := hrel
      by_cases hlt : k < fs.length
      · first
          | (exfalso; omega)
          | (have hcell := hcf k hlt
             have hsz : (fs.getD k ByteArray.empty).size ≤ maxLen := HF.out _ (by simp [List.getD, hlt])
             have HT : Hid (tot (fs.take (k + 1)) = tot (fs.take k) + (fs.getD k ByteArray.empty).size) := tot_snoc fs k hlt
             generalize fs.getD k ByteArray.empty = s at hcell HT hsz
             unfold maxLen at hsz
             generalize tot (fs.take k) = T at HT hb
             clear hcf
             by_cases h1 : s.size ≤ 1048576
             · by_cases h2 : fs.length + T + s.size ≤ 1048576
               · go_wp2
                 go_round
                 case rel => exact ⟨k + 1, by omega, by go_num, by rw [HT.out]; go_num, by rw [HT.out]; omega⟩
                 case measure => simp [intOf]; omega
               · go_wp2
                 go_ret
                 exact no_mk _
             · go_wp2
               go_ret
               exact no_mk _)
      · have HE : Hid (tot (fs.take k) = tot fs) := by rw [List.take_of_length_le (by omega)]; exact rfl
        generalize tot (fs.take k) = T at HE hb
        by_cases hl : ss.length ≤ 1048576
        · by_cases hl2 : fs.length + T + ss.length ≤ 1048576
          · go_wp2
            go_loop [5, 7] (fun t i => ∃ j : Nat, j ≤ ss.length ∧ i = .int .i64 j ∧ t = .int .i64 ((fs.length + T + ss.length + tot (ss.take j) : Nat) : Int) ∧ fs.length + T + ss.length + tot (ss.take j) ≤ 1048576) (fun _ i => ss.length - (intOf i).toNat)
            case atStart => exact ⟨0, Nat.zero_le _, rfl, by simp [tot], by simp [tot]; omega⟩
            case round =>
              obtain ⟨j, hj, rfl, rfl, hb2⟩ := hrel
              by_cases hlt2 : j < ss.length
              · first
                  | (exfalso; omega)
                  | (have hcell := hcs j hlt2
                     have hsz : (ss.getD j ByteArray.empty).size ≤ maxLen := HS.out _ (by simp [List.getD, hlt2])
                     have HT : Hid (tot (ss.take (j + 1)) = tot (ss.take j) + (ss.getD j ByteArray.empty).size) := tot_snoc ss j hlt2
                     generalize ss.getD j ByteArray.empty = s at hcell HT hsz
                     unfold maxLen at hsz
                     generalize tot (ss.take j) = T2 at HT hb2
                     clear hcs
                     by_cases h1 : s.size ≤ 1048576
                     · by_cases h2 : fs.length + T + ss.length + T2 + s.size ≤ 1048576
                       · go_wp2
                         go_round
                         case rel => exact ⟨j + 1, by omega, by go_num, by rw [HT.out]; go_num, by rw [HT.out]; omega⟩
                         case measure => simp [intOf]; omega
                       · go_wp2
                         go_ret
                         exact no_mk _
                     · go_wp2
                       go_ret
                       exact no_mk _)
              · have HE2 : Hid (tot (ss.take j) = tot ss) := by rw [List.take_of_length_le (by omega)]; exact rfl
                generalize tot (ss.take j) = T2 at HE2 hb2
                go_wp2
                go_ret
                exact yes_mk (by rw [← HE.out, ← HE2.out]; omega) _
          · first
              | (exfalso; omega)
              | (go_wp2
                 go_ret
                 exact no_mk _)
        · first
            | (exfalso; omega)
            | (go_wp2
               go_ret
               exact no_mk _)

end Go.Proofs.Qxb6617631a
