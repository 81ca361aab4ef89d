/-
  JobSpec.PairBytes, where the reduce's bytes are given.
-/
import Derived.Test.Qxb6617759aRows
import Derived.WalkKit
import Derived.WalkSpells
import Derived.WalkLawsBesides
import Derived.Deep.QuietTactic
import Derived.BigQuiet
namespace Go.Proofs.Qxb6617759a
open Go.RowKit
set_option linter.unusedVariables false

/-- The share of map k. -/
def share (V M k : Nat) : Nat := V / M + (if k < V % M then 1 else 0)

def PairSays (n : Nat) (w : World) (e : Ending) (w' : World) : Prop := e = .returned (.int .i64 n) ∧ Below w.heap.size w w'

theorem pair_mk {n : Nat} {x : Int} {w w' : World} (h : x = n) (hb : Below w.heap.size w w') : PairSays n w (.returned (.int .i64 x)) w' := ⟨by rw [h], hb⟩

/-- What the first k maps send. -/
def upto (V M k : Nat) : Nat := k * (V / M) + min k (V % M)

theorem upto_zero (V M : Nat) : upto V M 0 = 0 := by simp [upto]
theorem upto_succ (V M k : Nat) : upto V M (k + 1) = upto V M k + share V M k := by
  unfold upto share
  rw [Nat.add_mul, Nat.one_mul]
  split <;> omega
theorem upto_all (V M : Nat) (hM : 1 ≤ M) : upto V M M = V := by
  unfold upto
  have h1 := Nat.div_add_mod V M
  have h2 := Nat.mod_lt V hM
  rw [Nat.min_eq_right (by omega)]
  exact h1
theorem upto_le (V M k : Nat) (hM : 1 ≤ M) (hk : k ≤ M) : upto V M k ≤ V := by
  have h := upto_all V M hM
  unfold upto at h ⊢
  have h1 : k * (V / M) ≤ M * (V / M) := Nat.mul_le_mul_right _ hk
  omega
theorem share_down (V M j k : Nat) (h : j ≤ k) : share V M k ≤ share V M j ∧ share V M j ≤ share V M k + 1 := by
  unfold share
  split <;> split <;> omega

/-- The spec that the law makes. -/
def spec (M : Nat) (bpp : Int) (b off len cap : Nat) : Value :=
  .agg #[.string ⟨#[]⟩, .int .i64 0, .slice none 0 0, .string ⟨#[]⟩, .string ⟨#[]⟩, .slice none 0 0, .string ⟨#[]⟩, .string ⟨#[]⟩, .int .i64 M, .int .i64 0, .int .i64 bpp, .slice (some ⟨b, off, none⟩) len cap]

set_option maxHeartbeats 400000 in
theorem pair_any (V M k r : Nat) (bpp : Int) (b off len cap : Nat) (w : World) (hV : V ≤ 9223372036854775807) (hM : 1 ≤ M) (hM2 : M ≤ 65536) (hk : k < M) (hr : r < len) (hlen : len ≤ 65536)
    (hb : b < w.heap.size) (hc : w.cell? ⟨b, off + r, none⟩ = some (.int .i64 V)) :
    Calls Try.prog 5 #[spec M bpp b off len cap, .int .i64 k, .int .i64 r] w (PairSays (share V M k) w) := by
  have hi : (r : Int) < (len : Int) := by omega
  have hl0 : ((len : Int) == 0) = false := by simp; omega
  have hca : ∀ o, (w.alloc o).cell? ⟨b, off + r, none⟩ = some (.int .i64 V) := fun o => ((Below.refl w.heap.size w).alloc (Nat.le_refl _) o).cell (p := ⟨b, off + r, none⟩) hb ▸ hc
  have hq : (V : Int) / (M : Int) ≤ V := by have := Nat.div_le_self V M; omega
  have hq0 : 0 ≤ (V : Int) / (M : Int) := by have := Nat.zero_le (V / M); omega
  unfold spec
  by_cases hlt : k < V % M
  · have hlt' : (k : Int) < (V : Int) % (M : Int) := by omega
    have hV1 : (V : Int) / (M : Int) + 1 ≤ 9223372036854775807 := by
      have h1 : V / M * M + V % M = V := by rw [Nat.mul_comm]; exact Nat.div_add_mod V M
      have h2 : V / M * 1 ≤ V / M * M := Nat.mul_le_mul_left _ hM
      have : V / M + 1 ≤ 9223372036854775807 := by omega
      omega
    go_enter Try.func5, Try.ntmps5
    go_wp2
    go_quiet (fail)
    go_wp2
    go_ret
    exact pair_mk (by unfold share; rw [if_pos hlt]; omega) (below_drewN ((Below.refl _ _).alloc (Nat.le_refl _) _) _)
  · have hlt' : (V : Int) % (M : Int) ≤ (k : Int) := by omega
    go_enter Try.func5, Try.ntmps5
    go_wp2
    go_quiet (fail)
    go_wp2
    go_ret
    exact pair_mk (by unfold share; rw [if_neg hlt]; omega) (below_drewN ((Below.refl _ _).alloc (Nat.le_refl _) _) _)

end Go.Proofs.Qxb6617759a
