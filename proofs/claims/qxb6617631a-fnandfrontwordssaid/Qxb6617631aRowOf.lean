/-
  A row of strings that the call itself made: 'Row w g xs': block g holds just the strings xs. And the laws of make and copy in its words.
-/
import Derived.Test.Qxb6617631aAnd
import Derived.Laws.CopyOwn
namespace Go.Proofs.Qxb6617631a
open Go.RowKit
set_option linter.unusedVariables false

def Row (w : World) (g : Nat) (xs : List ByteArray) : Prop := w.heap[g]? = some (.cells (xs.map Value.string).toArray 9 (0, 0))

theorem Row.lt {w : World} {g : Nat} {xs : List ByteArray} (h : Row w g xs) : g < w.heap.size := (Array.getElem?_eq_some_iff.1 h).1

theorem Row.at {w : World} {g : Nat} {xs : List ByteArray} (h : Row w g xs) (j : Nat) (x : ByteArray) (hj : xs[j]? = some x) : w.cell? ⟨g, j, none⟩ = some (.string x) := by
  rw [cell_of_row w g j _ 9 (0, 0) h]
  simp [hj]

theorem Row.cell {w : World} {g : Nat} {xs : List ByteArray} (h : Row w g xs) (j : Nat) (hj : j < xs.length) : w.cell? ⟨g, j, none⟩ = some (.string (xs.getD j ByteArray.empty)) :=
  h.at j _ (by simp [List.getD, hj])

theorem Row.cells {w : World} {g : Nat} {xs : List ByteArray} (h : Row w g xs) : ∀ (j : Nat) x, xs[j]? = some x → w.cell? ⟨g, 0 + j, none⟩ = some (.string x) := by
  intro j x hx
  rw [Nat.zero_add]
  exact h.at j x hx

theorem Row.free {w : World} {g : Nat} {xs : List ByteArray} (h : Row w g xs) (j : Nat) : w.frozen? ⟨g, j, none⟩ = false := frozen_of_row w g j _ 9 h

theorem Row.set {w : World} {g : Nat} {xs : List ByteArray} (h : Row w g xs) (j : Nat) (s : ByteArray) : Row (w.setCell ⟨g, j, none⟩ (.string s)) g (xs.set j s) := by
  unfold Row
  rw [heap_setCell_same w g j _ 9 _ h]
  simp [List.map_set]

theorem Row.other {w : World} {g : Nat} {xs : List ByteArray} (h : Row w g xs) (a : Addr) (v : Value) (hne : g ≠ a.block) : Row (w.setCell a v) g xs := by
  unfold Row
  rw [heap_setCell_other w a g v hne]
  exact h

theorem Row.later {w w' : World} {g : Nat} {xs : List ByteArray} (h : Row w g xs) (hb : Below w.heap.size w w') : Row w' g xs := by
  unfold Row
  rw [hb.block g h.lt]
  exact h

theorem info9 : (Try.prog.info? 9).map (fun i => (i.zero, i.size, i.bytes)) = some (some (.string ⟨#[]⟩), 1, 16) := by kernel_rfl
theorem size9 : (Try.prog.info? 9).map (·.size) = some 1 := by kernel_rfl

theorem row_of_own {w : World} {B g n : Nat} {xs : List Value} (h : w.ownsRow B 9 1 (.slice (some ⟨g, 0, none⟩) n n) n xs) : w.heap[g]? = some (.cells xs.toArray 9 (0, 0)) := by
  rcases h.2 with ⟨h', _⟩ | ⟨g', cap, cur, h', _, hg, _, _, hcs, ht⟩
  · simp at h'
  · simp only [Value.slice.injEq, Option.some.injEq, Addr.mk.injEq, and_true, true_and] at h'
    obtain ⟨rfl, rfl⟩ := h'
    rw [List.take_of_length_le (by simp [hcs])] at ht
    rw [hg, ← ht]

/-- 'make([]string, n)': a new row of n empty strings. -/
theorem make_strs (w : World) {ops : Array Oper} {rest : List Oper} {o : Oper} {a : Act} {Q : Exit → Act → World → Prop}
    (hg : o.guard = none) (l c : Operand) (hop : o.op = Op.makeSlice 22 l c)
    (L C : Int) (n : Nat) (hl : a.eval l = .int .i64 L) (hc : a.eval c = .int .i64 C) (hL : L = (n : Int)) (hC : C = (n : Int)) (hn : n ≤ 4194304)
    (hK : ∀ w', Row w' w.heap.size (List.replicate n ⟨#[]⟩) → Below w.heap.size w w' → wpList Try.prog ops Q rest (a.put o.dst (.slice (some ⟨w.heap.size, 0, none⟩) n n)) w') :
    wpList Try.prog ops Q (o :: rest) a w := by
  obtain ⟨i, hi, h0, h1, h2⟩ := info_parts info9
  refine wpList_make_full w hg l c 22 hop w.heap.size 9 i (.string ⟨#[]⟩) 1 Try.underlying22 hi h0 h1 .i64 .i64 L C n hl hc hL hC (by rw [h2]; omega) (by unfold maxLen; omega) (Nat.le_refl _) ?_
  intro w' hown hgrow
  refine hK w' ?_ ((Below.refl _ _).grown hgrow (Nat.le_refl _) (by simp))
  have := row_of_own hown
  unfold Row
  rw [this, Nat.mul_one]
  congr 2
  show (madeCells #[Value.string ⟨#[]⟩] n).toList.toArray = _
  rw [toList_madeCells_one]
  simp

/-- 'copy(zzc, words)' into a new row of the same length: the row holds the words. -/
theorem copy_strs (w w0 : World) (B : Nat) {ops : Array Oper} {rest : List Oper} {o : Oper} {a : Act} {Q : Exit → Act → World → Prop}
    (hg : o.guard = none) (d s : Operand) (hop : o.op = .call { callee := .builtin .copy, args := #[d, s], argTypes := #[22, 22] })
    (g : Nat) (ss zs : List ByteArray) (src : Option Addr) (c : Nat) (hd : a.eval d = .slice (some ⟨g, 0, none⟩) ss.length ss.length) (hs : a.eval s = .slice src ss.length c)
    (hrow : Row w g zs) (hz : zs.length = ss.length) (hsrc : StrsAt w src ss) (hb : Below B w0 w) (hB : B ≤ g)
    (hK : ∀ w', Row w' g ss → Below B w0 w' → wpList Try.prog ops Q rest (a.put o.dst (goInt ss.length)) w') :
    wpList Try.prog ops Q (o :: rest) a w := by
  refine wpList_copy_splice hg d s 22 22 hop 9 Try.underlying22 size9 _ _ _ _ _ _ hd hs g 0 (zs.map Value.string) 9 hrow (ss.map Value.string) (by simp) ?_ (by simp [hz]) ?_ B w0 hb hB ?_
  · intro hp
    obtain ⟨b, off, rfl, _, hc⟩ := hsrc (by simpa using hp)
    refine ⟨rfl, _, rfl, ?_⟩
    intro j v hv
    simp only [List.getElem?_map, Option.map_eq_some_iff] at hv
    obtain ⟨x, hx, rfl⟩ := hv
    have hj := (List.getElem?_eq_some_iff.1 hx).1
    have := hc j hj
    simp only [Addr.add_lit]
    rw [this]
    simp [List.getD, hx]
  · intro v hv
    obtain ⟨x, _, rfl⟩ := List.mem_map.1 hv
    rfl
  · intro w' hr hb'
    have hr' := hr.out
    rw [show (goInt (List.map Value.string ss).length) = goInt ss.length by simp]
    refine hK w' ?_ hb'
    unfold Row
    rw [hr']
    simp [splice, hz]

end Go.Proofs.Qxb6617631a
