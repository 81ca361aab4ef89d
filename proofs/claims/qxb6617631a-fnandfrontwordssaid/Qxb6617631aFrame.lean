/-
  FROM A SLICE OF STRINGS THAT CAME IN TO WHAT THE WALKS ARE TOLD OF IT.
-/
import Derived.Test.Qxb6617631aLawA2
import Derived.ProofKit
import Derived.OpenShut
import Derived.ShutString
import Derived.ChangeOld
import Derived.SliceStrings
namespace Go.Proofs.Qxb6617631a
open Go.ChangeShapes Go.WideShapes Go.ChangeAt Go.RowKit
open Go.ChangeMaps (open_string shut_string)
set_option linter.unusedVariables false

theorem own : ownKnob Try.prog.godebug = none := by kernel_rfl
theorem laidOut : laidOutB Try.prog = true := by kernel_rfl
theorem cells9 : Try.prog.cellsOf 9 = 1 := by kernel_rfl

theorem strs_open {H : Type} {enc : TypeId × Value → H} {W : World} {a : Option Addr} {len cap : Nat} {x : DataW H × List MemPlace} {fuel : Nat}
    (h : DataW.trod enc Try.prog W 0 (fun _ => true) true fuel 22 (Value.slice a len cap).cells.toList = some x) :
    ∃ ss : List ByteArray, len = ss.length ∧ StrsAt W a ss ∧ (a = none → ss = []) ∧ ∀ s ∈ ss, s.size ≤ maxLen := by
  rcases open_strings Try.underlying22 Try.underlying9 cells9 h with ⟨hcs, _⟩ | ⟨ad, l, c, ss, hcs, _, hl, hm, hz, _, hcell, hws⟩
  · simp [Value.cells] at hcs
    obtain ⟨rfl, rfl, rfl⟩ := hcs
    exact ⟨[], rfl, fun h => by simp at h, fun _ => rfl, by simp⟩
  · simp [Value.cells] at hcs
    obtain ⟨rfl, rfl, rfl⟩ := hcs
    simp only [if_true] at hz
    refine ⟨ss.take len, by simp; omega, ?_, by simp, fun s hs => hws s (List.mem_of_mem_take hs)⟩
    intro h0
    have hlen : (ss.take len).length = len := by simp; omega
    rw [hlen] at h0
    obtain ⟨b, off, spot⟩ := ad
    have hc0 := hcell 0 (by omega)
    have hspot : spot = none := by simpa [Addr.add] using World.cell?_spot hc0
    subst hspot
    refine ⟨b, off, rfl, World.block_lt_of_cell? W _ (by simpa [Addr.add_lit] using hc0), fun i hi => ?_⟩
    rw [hlen] at hi
    have := hcell i (by omega)
    simp only [Addr.add_lit] at this
    rw [this]
    simp [List.getD, hi]

end Go.Proofs.Qxb6617631a
