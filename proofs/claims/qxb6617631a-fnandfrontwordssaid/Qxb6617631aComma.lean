/-
  pipelineB1CommaJoin, at a slice that is not empty.
-/
import Derived.Test.Qxb6617631aPlain
import Derived.Lib.AppendStr
import Derived.Laws.IdiomStrings
import Derived.Lib.BufferRead
namespace Go.Proofs.Qxb6617631a
open Go.RowKit
set_option linter.unusedVariables false

theorem info5 : (Try.prog.info? 5).map (fun i => (i.zero, i.size, i.bytes)) = some (some (.int .u8 0), 1, 1) := by kernel_rfl

def byteVals (l : List UInt8) : List Value := l.map fun b => Value.int .u8 b.toNat
theorem byteVals_append (a b : List UInt8) : byteVals (a ++ b) = byteVals a ++ byteVals b := by simp [byteVals]

/-- The value v is a slice of bytes of the call's own; it holds l. -/
def Buf (B : Nat) (w wr : World) (v : Value) (l : List UInt8) : Prop := ∃ g cap, v = .slice (some ⟨g, 0, none⟩) l.length cap ∧ wr.ownsRow B 5 1 v l.length (byteVals l) ∧ Below B w wr ∧ B ≤ wr.heap.size

theorem Buf.mk {B : Nat} {w wr : World} {v : Value} {l : List UInt8} (ho : wr.ownsRow B 5 1 v l.length (byteVals l)) (hn : v ≠ .slice none 0 0) (hb : Below B w wr) (hB : B ≤ wr.heap.size) : Buf B w wr v l := by
  rcases ho.2 with ⟨h, _⟩ | ⟨g, cap, cur, h, _⟩
  · exact absurd h hn
  · exact ⟨g, cap, h, ho, hb, hB⟩

/-- Behind an append of cells. -/
theorem Buf.app {B : Nat} {w wr wx w' : World} {v v' : Value} {l m : List UInt8} {n : Nat} (h : Buf B w wr v l) (hx : Below wr.heap.size wr wx)
    (hn : n = m.length) (ho : w'.ownsRow B 5 1 v' (l.length + n) (byteVals l ++ byteVals m)) (hg : wx.grownBy w' v.ownBlock) (hi : v' ≠ .slice none 0 0) :
    Buf B w w' v' (l ++ m) := by
  subst hn
  obtain ⟨g, cap, rfl, hown, hb, hB⟩ := h
  have hlt := hown.lt g rfl
  have hbx : Below B w wx := hb.trans (hx.mono hB)
  refine Buf.mk (by simpa [byteVals_append] using ho) hi (hbx.grown hg (Nat.le_trans hB hx.size) ?_) (Nat.le_trans (Nat.le_trans hB hx.size) hg.size)
  intro k hk
  simp [Value.ownBlock] at hk
  omega

theorem joined_step (fs : List ByteArray) (k : Nat) (h : k < fs.length) : Lib.join (bs (fs.take (k + 1))) [44, 32] =
    Lib.join (bs (fs.take k)) [44, 32] ++ ((if k = 0 then [] else [44, 32]) ++ (fs.getD k ByteArray.empty).data.toList) := by
  have e : fs.take (k + 1) = fs.take k ++ [fs.getD k ByteArray.empty] := by
    rw [List.take_succ_eq_append_getElem h]; simp [List.getD, h]
  rw [e, bs_append]
  by_cases hk : k = 0
  · subst hk
    simp [bs, Lib.join_one, Lib.join_nil]
  · rw [join_append _ _ _ (by simp [bs]; exact ⟨hk, by intro h; subst h; simp at *⟩) (by simp [bs]), if_neg hk]
    simp [bs, Lib.join_one]

theorem joined_le (fs : List ByteArray) (k : Nat) : (Lib.join (bs (fs.take k)) [44, 32]).length ≤ tot fs + 2 * fs.length := by
  have h1 := join_le (fs.take k)
  have h2 : tot (fs.take k) ≤ tot fs := by
    have := tot_append (fs.take k) (fs.drop k)
    rw [List.take_append_drop] at this
    omega
  have h3 : (fs.take k).length ≤ fs.length := by simp; omega
  omega

theorem two_new (w : World) (a b : Value) (t : TypeId) : ∀ j u, [a, b][j]? = some u → (w.alloc (.cells #[a, b] t)).cell? ((⟨w.heap.size, 0, none⟩ : Addr).add j) = some u := by
  intro j u hj
  match j, hj with
  | 0, hj => simp at hj; subst hj; simp [Addr.add]
  | 1, hj => simp at hj; subst hj; simp [Addr.add]
  | j + 2, hj => simp at hj

theorem two_one : ∀ u ∈ [Value.int .u8 44, Value.int .u8 32], u.oneCell' = true := by
  intro u hu
  simp at hu
  rcases hu with rfl | rfl <;> rfl

theorem Buf.own {B : Nat} {w wr : World} {v : Value} {l : List UInt8} (h : Buf B w wr v l) : wr.ownsRow B 5 1 v l.length (byteVals l) := by
  obtain ⟨g, cp, _, ho, _⟩ := h
  exact ho
theorem Buf.notNil {B : Nat} {w wr : World} {v : Value} {l : List UInt8} (h : Buf B w wr v l) : v ≠ .slice none 0 0 := by
  obtain ⟨g, cp, rfl, _⟩ := h
  simp
theorem Buf.base {B : Nat} {w wr : World} {v : Value} {l : List UInt8} (h : Buf B w wr v l) : B ≤ wr.heap.size := by
  obtain ⟨g, cp, _, _, _, hB⟩ := h
  exact hB
theorem Buf.below {B : Nat} {w wr : World} {v : Value} {l : List UInt8} (h : Buf B w wr v l) : Below B w wr := by
  obtain ⟨g, cp, _, _, hb, _⟩ := h
  exact hb
theorem strCells_vals (s : ByteArray) : Lib.strCells s = byteVals s.data.toList := rfl

set_option maxHeartbeats 1000000 in
theorem comma_any (b off c : Nat) (fs : List ByteArray) (w : World) (hl : fs.length ≤ 65536) (ht : tot fs ≤ 1048576) (hne : 0 < fs.length) (hbk : b < w.heap.size)
    (hc : ∀ i, i < fs.length → w.cell? ⟨b, off + i, none⟩ = some (.string (fs.getD i ByteArray.empty))) :
    Calls Try.prog 9 #[.slice (some ⟨b, off, none⟩) fs.length c] w (GivesStr (Lib.join (bs fs) [44, 32]) w) := by
  have HC : Hid (∀ i, i < fs.length → w.cell? ⟨b, off + i, none⟩ = some (.string (fs.getD i ByteArray.empty))) := hc
  clear hc
  obtain ⟨i0, hi, hz0, hz1, hz2⟩ := info_parts info5
  go_enter Try.func9, Try.ntmps9
  go_wp2
  go_loop [3, 4] (fun t i => ∃ k : Nat, k ≤ fs.length ∧ i = .int .i64 k ∧ t = .int .i64 ((tot (fs.take k) : Nat) : Int) ∧ tot (fs.take k) ≤ 1048576) (fun _ i => fs.length - (intOf i).toNat)
  case atStart => exact ⟨0, Nat.zero_le _, rfl, by simp [tot], by simp [tot]⟩
  case round =>
    obtain ⟨k, hk, rfl, rfl, hT⟩ := hrel
    by_cases hlt : k < fs.length
    · have hcell := HC.out k hlt
      have HT : Hid (tot (fs.take (k + 1)) = tot (fs.take k) + (fs.getD k ByteArray.empty).size) := tot_snoc fs k hlt
      have hT2 : tot (fs.take (k + 1)) ≤ 1048576 := by
        have := tot_append (fs.take (k + 1)) (fs.drop (k + 1))
        rw [List.take_append_drop] at this
        omega
      have hsz : tot (fs.take k) + (fs.getD k ByteArray.empty).size ≤ 1048576 := by have := HT.out; omega
      generalize fs.getD k ByteArray.empty = s at hcell HT hsz
      generalize tot (fs.take k) = T at HT hT hsz
      go_wp2
      go_round
      case rel => exact ⟨k + 1, by omega, by go_num, by rw [HT.out]; go_num, hT2⟩
      case measure => simp [intOf]; omega
    · generalize tot (fs.take k) = T at hT
      obtain ⟨N, HN⟩ : ∃ N : Nat, Hid ((1 < fs.length → N = T + 2 * (fs.length - 1)) ∧ (¬ 1 < fs.length → N = T) ∧ N ≤ 2097152) := by
        by_cases h1 : 1 < fs.length
        · exact ⟨T + 2 * (fs.length - 1), fun _ => rfl, fun h => absurd h1 h, by omega⟩
        · exact ⟨T, fun h => absurd h h1, fun _ => rfl, by omega⟩
      by_cases h1 : 1 < fs.length
      all_goals
        go_wp2_with (at_make; refine wpList_make_own _ rfl _ _ 27 rfl w.heap.size 5 i0 (.int .u8 0) 1 Try.underlying27 hi hz0 hz1 .i64 .i64 _ N rfl rfl (by first | (have := HN.out.1 h1; omega) | (have := HN.out.2.1 h1; omega)) (by have := HN.out.2.2; rw [hz2]; omega) (by have := HN.out.2.2; unfold maxLen; omega) (Nat.le_refl _) ?_)
        intro w1 hown hgrow
        have H1 : Hid (Buf w.heap.size w w1 (.slice (some ⟨w.heap.size, 0, none⟩) 0 N) []) :=
          ⟨w.heap.size, N, rfl, hown, (Below.refl _ _).grown hgrow (Nat.le_refl _) (by simp), hgrow.size⟩
        clear hown hgrow HN
        go_wp2
        go_loopw [5, 6] (fun v i wr => ∃ j : Nat, j ≤ fs.length ∧ i = .int .i64 j ∧ Hid (Buf w.heap.size w wr v (Lib.join (bs (fs.take j)) [44, 32]))) (fun _ i _ => fs.length - (intOf i).toNat)
        case atStart => exact ⟨0, Nat.zero_le _, rfl, H1⟩
        case round =>
          obtain ⟨j, hj, rfl, HB⟩ := hrel
          clear H1
          by_cases hlt : j < fs.length
          · have hle := joined_le fs j
            have hcell : wr.cell? ⟨b, off + j, none⟩ = some (.string (fs.getD j ByteArray.empty)) := (HB.out.below.cell (p := ⟨b, off + j, none⟩) hbk).trans (HC.out j hlt)
            have hsz : (fs.getD j ByteArray.empty).size ≤ 1048576 := Nat.le_trans (tot_mem fs _ (by simp [List.getD, hlt])) ht
            have HJ : Hid (Lib.join (bs (fs.take (j + 1))) [44, 32] = Lib.join (bs (fs.take j)) [44, 32] ++ ((if j = 0 then [] else [44, 32]) ++ (fs.getD j ByteArray.empty).data.toList)) := joined_step fs j hlt
            generalize fs.getD j ByteArray.empty = s at hcell HJ hsz
            generalize Lib.join (bs (fs.take j)) [44, 32] = l at HB HJ hle
            by_cases hj0 : j ≤ 0
            · go_wp2_with (at_builtin; refine Lib.wpList_append_own_string _ rfl _ _ 27 9 rfl w.heap.size 5 i0 Try.underlying27 Try.underlying9 hi hz0 hz1 hz2 _ l.length (byteVals l) rfl HB.out.own s rfl (by unfold maxLen; omega) (by omega) HB.out.base ?_)
              intro v2 w2 hown2 hgrow2 hiff2
              have H2 : Hid (Buf w.heap.size w w2 v2 (Lib.join (bs (fs.take (j + 1))) [44, 32])) := by
                rw [HJ.out, if_pos (by omega), List.nil_append]
                exact HB.out.app (Below.refl _ _) (Lib.size_eq s) hown2 hgrow2 (fun h => HB.out.notNil (hiff2.1 h).1)
              clear hown2 hgrow2 hiff2 HB HJ hcell
              go_wp2
              go_roundw
              case rel => exact ⟨j + 1, by omega, by go_num, H2⟩
              case measure => simp [intOf]; omega
            · first
                | (exfalso; omega)
                | (go_wp2_with (at_builtin; refine wpList_append_own _ rfl (.tmp 39) (.tmp 40) 27 rfl w.heap.size 5 i0 (.int .u8 0) 1 1 Try.underlying27 hi hz0 hz1 hz2 rfl (by decide) _ l.length (byteVals l) rfl (HB.out.own.alloc _) ⟨wr.heap.size, 0, none⟩ 2 2 [.int .u8 44, .int .u8 32] rfl rfl (two_new _ _ _ _) two_one (by unfold maxLen; omega) (by omega) (by have := HB.out.base; simp; omega) ?_)
                   intro v2 w2 hown2 hgrow2 hiff2
                   have H2 : Hid (Buf w.heap.size w w2 v2 (l ++ [44, 32])) := HB.out.app ((Below.refl _ _).alloc (Nat.le_refl _) _) rfl hown2 hgrow2 hiff2
                   have hcell2 : w2.cell? ⟨b, off + j, none⟩ = some (.string s) := by
                     have e1 := HB.out.below.cell (p := ⟨b, off + j, none⟩) hbk
                     have e2 := H2.out.below.cell (p := ⟨b, off + j, none⟩) hbk
                     rw [e2, ← e1]
                     exact hcell
                   have hl2 : (l ++ [44, 32]).length ≤ 4194304 := by simp; omega
                   have HJ2 : Hid (Lib.join (bs (fs.take (j + 1))) [44, 32] = (l ++ [44, 32]) ++ s.data.toList) := by rw [HJ.out, if_neg (by omega), List.append_assoc]; exact rfl
                   generalize l ++ [44, 32] = l2 at H2 hl2 HJ2
                   clear hown2 hgrow2 hiff2 HB hcell HJ hle
                   go_wp2_with (at_builtin; refine Lib.wpList_append_own_string _ rfl (.tmp 42) (.tmp 46) 27 9 rfl w.heap.size 5 i0 Try.underlying27 Try.underlying9 hi hz0 hz1 hz2 _ l2.length (byteVals l2) rfl H2.out.own s rfl (by unfold maxLen; omega) (by omega) H2.out.base ?_)
                   intro v3 w3 hown3 hgrow3 hiff3
                   have H3 : Hid (Buf w.heap.size w w3 v3 (Lib.join (bs (fs.take (j + 1))) [44, 32])) := by
                     rw [HJ2.out]
                     exact H2.out.app (Below.refl _ _) (Lib.size_eq s) hown3 hgrow3 (fun h => H2.out.notNil (hiff3.1 h).1)
                   clear hown3 hgrow3 hiff3 H2 HJ2 hcell2
                   go_wp2
                   go_roundw
                   case rel => exact ⟨j + 1, by omega, by go_num, H3⟩
                   case measure => simp [intOf]; omega)
          · have HL : Hid (Lib.join (bs (fs.take j)) [44, 32] = Lib.join (bs fs) [44, 32]) := by rw [List.take_of_length_le (by omega)]; exact rfl
            generalize Lib.join (bs (fs.take j)) [44, 32] = l at HB HL
            obtain ⟨g, cp, rfl, hown, hb, hB⟩ := HB.out
            have hconv := run_convert_bytes_back (P := Try.prog) wr 27 9 5 ⟨g, 0, none⟩ cp l Try.underlying27 Try.underlying5 Try.underlying9 (by
              intro i hi
              have := hown.cellAt i (by simpa using hi)
              simp only [Addr.add_lit, Nat.zero_add]
              rw [this]
              simp [byteVals, hi])
            have H4 : Hid (Below w.heap.size w wr) := hb
            clear hown hb hB HB
            go_wp2
            go_ret
            exact givesStr_mk (by rw [← HL.out]) H4.out

end Go.Proofs.Qxb6617631a
