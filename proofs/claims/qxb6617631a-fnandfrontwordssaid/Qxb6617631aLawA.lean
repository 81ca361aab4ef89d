/-
  THE WALK OF FnAndAppendOneWord.
-/
import Derived.Test.Qxb6617631aRowOf
namespace Go.Proofs.Qxb6617631a
open Go.RowKit
set_option linter.unusedVariables false

def Yes (w : World) (e : Ending) (w' : World) : Prop := e = .returned (.bool true) ∧ Below w.heap.size w w'
theorem Yes.mk {w w' : World} (h : Below w.heap.size w w') : Yes w (.returned (.bool true)) w' := ⟨rfl, h⟩
theorem Yes.of {w w' : World} {b : Bool} (hb : b = true) (h : Below w.heap.size w w') : Yes w (.returned (.bool b)) w' := ⟨by rw [hb], h⟩

set_option maxHeartbeats 400000 in
theorem lawA_nil (J : JoinSays) (cap : Nat) (x : ByteArray) (w : World) (hx : x.size ≤ maxLen) :
    Calls Try.prog 3 #[.slice none 0 cap, .string x] w (Yes w) := by
  have hneq := fun (a : Option Addr) (n c : Nat) (w : World) => run_neq_slice_nil_any (P := Try.prog) w 22 9 a n c 0 0 Try.underlying22
  have HX : Hid (x.size ≤ maxLen) := hx
  clear hx
  go_enter Try.func3, Try.ntmps3
  go_wp2_with fail
  refine (bytesA_none none cap x w HX.out).mono ?_
  rintro e w1 ⟨b, rfl, rfl, hb⟩
  cases b with
  | false =>
    clear hb
    go_wp2
    go_ret
    exact Yes.mk (Below.refl _ _)
  | true =>
    have hb' := hb rfl
    clear hb
    go_wp2_with fail
    refine (sum_none none cap _ _).mono ?_
    rintro e w1 ⟨m, rfl, rfl⟩
    by_cases hm : 1048576 < m
    · go_wp2
      go_ret
      exact Yes.mk (Below.refl _ _)
    go_wp2_with (at_make; refine make_strs _ rfl _ _ rfl _ _ 1 rfl rfl rfl rfl (by omega) ?_)
    intro w2 hr hbel
    have hc := hr.cell 0 (by simp)
    have hf := hr.free 0
    have HR : Hid (Row w2 w1.heap.size (List.replicate 1 ⟨#[]⟩)) := hr
    have HB : Hid (Below w1.heap.size w1 w2) := hbel
    clear hr hbel
    go_wp2
    refine wp_loop_rounds 1 ?_
    rw [rounds_succ]
    go_wp2_with fail
    have hr3 : Row (w2.setCell ⟨w1.heap.size, 0, none⟩ (.string x)) w1.heap.size [x] := by simpa using HR.out.set 0 x
    have hb3 : Below w1.heap.size w1 (w2.setCell ⟨w1.heap.size, 0, none⟩ (.string x)) := HB.out.setCell (Nat.le_refl _) _
    have H3 : Hid (_ ∧ _) := ⟨hr3, hb3⟩
    clear hr3 hb3 hc hf
    refine (zzand_any J w1.heap.size 0 1 [] x _ (by simpa using H3.out.1.cells) (by exact H3.out.1.lt) (by simp) (by simp) (by simp [maxLen]) (by omega) (by simp [bs, Lib.join_nil])).mono ?_
    rintro e w4 ⟨r, rfl, hr, hb4⟩
    obtain rfl : r = x := Go.WideShapes.bytes_inj hr
    go_wp2
    go_ret
    exact Yes.of (by simp) (H3.out.2.trans (hb4.mono H3.out.2.size))

end Go.Proofs.Qxb6617631a
