/-
  THE WALK OF FnAndAppendOneWord, words not nil.
-/
import Derived.Test.Qxb6617631aLawA
import Derived.Test.Qxb6617631aPlain
namespace Go.Proofs.Qxb6617631a
open Go.RowKit
set_option linter.unusedVariables false

theorem zzand_n (J : JoinSays) (bk c n : Nat) (ys : List ByteArray) (z : ByteArray) (w : World) (hn : n = ys.length + 1) (hr : Row w bk (ys ++ [z])) (hcap : n ≤ c) (hcm : c ≤ 4194304)
    (hN : n ≤ 131074) (hT : tot ys + z.size ≤ 1048576) : Calls Try.prog 7 #[.slice (some ⟨bk, 0, none⟩) n c] w (GivesStr (andOf ys z) w) := by
  subst hn
  have := join_le ys
  exact zzand_any J bk 0 c ys z w hr.cells hr.lt (by omega) hcap (by unfold maxLen; omega) (by omega) (by omega)

/-- What is known behind the copy and the loop. -/
def Got (w wr : World) (g1 g2 : Nat) (ss : List ByteArray) (ls : List ByteArray) : Prop := Row wr g1 ss ∧ Row wr g2 ls ∧ Below w.heap.size w wr ∧ w.heap.size ≤ g1 ∧ g1 < g2

theorem Got.step {w wr : World} {g1 g2 : Nat} {ss : List ByteArray} {k : Nat} {e : ByteArray} (h : Got w wr g1 g2 ss (ss.take k ++ List.replicate (ss.length + 1 - k) e)) (hk : k < ss.length) :
    Got w (wr.setCell ⟨g2, k, none⟩ (.string (ss.getD k ByteArray.empty))) g1 g2 ss (ss.take (k + 1) ++ List.replicate (ss.length + 1 - (k + 1)) e) := by
  obtain ⟨h1, h2, hb, hg, hl⟩ := h
  refine ⟨h1.other _ _ (by simp; omega), ?_, hb.setCell (by simp; omega) _, hg, hl⟩
  have := h2.set k (ss.getD k ByteArray.empty)
  rwa [set_step ss k e hk] at this

theorem Got.last {w wr : World} {g1 g2 : Nat} {ss : List ByteArray} {k : Nat} {e : ByteArray} (h : Got w wr g1 g2 ss (ss.take k ++ List.replicate (ss.length + 1 - k) e)) (hk : k = ss.length) (x : ByteArray) :
    Got w (wr.setCell ⟨g2, ss.length, none⟩ (.string x)) g1 g2 ss (ss ++ [x]) := by
  subst hk
  obtain ⟨h1, h2, hb, hg, hl⟩ := h
  refine ⟨h1.other _ _ (by simp; omega), ?_, hb.setCell (by simp; omega) _, hg, hl⟩
  have := h2.set ss.length x
  rwa [set_last] at this

set_option maxHeartbeats 400000 in
theorem lawA_some (J : JoinSays) (ad : Addr) (cap : Nat) (ss : List ByteArray) (x : ByteArray) (w : World) (hs : StrsAt w (some ad) ss)
    (hm : ∀ s ∈ ss, s.size ≤ maxLen) (hx : x.size ≤ maxLen) :
    Calls Try.prog 3 #[.slice (some ad) ss.length cap, .string x] w (Yes w) := by
  have HS : Hid (StrsAt w (some ad) ss) := hs
  have HM : Hid (∀ s ∈ ss, s.size ≤ maxLen) := hm
  have HX : Hid (x.size ≤ maxLen) := hx
  clear hs hm hx
  have hneq := fun (a : Option Addr) (n c : Nat) (w : World) => run_neq_slice_nil_any (P := Try.prog) w 22 9 a n c 0 0 Try.underlying22
  go_enter Try.func3, Try.ntmps3
  go_wp2_with fail
  refine (bytesA_any (some ad) cap ss x w HX.out HM.out HS.out).mono ?_
  rintro e w1 ⟨b, rfl, rfl, hb⟩
  cases b with
  | false =>
    clear hb
    go_wp2
    go_ret
    exact Yes.mk (Below.refl _ _)
  | true =>
    have hb' := hb rfl
    clear hb HM HX
    by_cases hl : 65536 < ss.length
    · go_wp2
      go_ret
      exact Yes.mk (Below.refl _ _)
    go_wp2_with fail
    refine (sum_any (some ad) cap ss _ _ (by omega) HS.out).mono ?_
    rintro e w1 ⟨m, rfl, rfl⟩
    by_cases hm : 1048576 < m
    · go_wp2
      go_ret
      exact Yes.mk (Below.refl _ _)
    go_wp2_with (at_make; refine make_strs _ rfl _ _ rfl _ _ ss.length rfl rfl rfl rfl (by omega) ?_)
    intro w2 hr hbel
    have H2 : Hid (Row w2 w1.heap.size (List.replicate ss.length ⟨#[]⟩) ∧ Below w1.heap.size w1 w2 ∧ StrsAt w2 (some ad) ss) := ⟨hr, hbel, by
      intro h0
      obtain ⟨b, off, e, hb, hc⟩ := HS.out h0
      exact ⟨b, off, e, Nat.lt_of_lt_of_le hb hbel.size, fun i hi => (hbel.cell (p := ⟨b, off + i, none⟩) hb).trans (hc i hi)⟩⟩
    clear hr hbel HS
    go_wp2_with (refine copy_strs _ w1 w1.heap.size rfl _ _ rfl w1.heap.size ss (List.replicate ss.length ⟨#[]⟩) (some ad) cap rfl rfl H2.out.1 (by simp) H2.out.2.2 H2.out.2.1 (Nat.le_refl _) ?_)
    intro w3 hr3 hb3
    have H3 : Hid (Row w3 w1.heap.size ss ∧ Below w1.heap.size w1 w3) := ⟨hr3, hb3⟩
    clear hr3 hb3 H2
    go_wp2_with (at_make; refine make_strs _ rfl _ _ rfl _ _ (ss.length + 1) rfl rfl (by omega) (by omega) (by omega) ?_)
    intro w4 hr4 hb4
    have H4 : Hid (Got w1 w4 w1.heap.size w3.heap.size ss (ss.take 0 ++ List.replicate (ss.length + 1 - 0) ⟨#[]⟩)) :=
      ⟨H3.out.1.later hb4, by simpa using hr4, H3.out.2.trans (hb4.mono H3.out.2.size), Nat.le_refl _, H3.out.1.lt⟩
    clear hr4 hb4 H3
    go_wp2
    go_loopw [8] (fun i wr => ∃ k : Nat, k ≤ ss.length ∧ i = .int .i64 k ∧ Hid (Got w1 wr w1.heap.size w3.heap.size ss (ss.take k ++ List.replicate (ss.length + 1 - k) ⟨#[]⟩)))
      (fun i _ => ss.length - (intOf i).toNat)
    case atStart => exact ⟨0, Nat.zero_le _, rfl, H4⟩
    case round =>
      obtain ⟨k, hk, rfl, HG⟩ := hrel
      clear H4
      by_cases hlt : k < ss.length
      · have hc1 := HG.out.1.cell k hlt
        have hf2 := HG.out.2.1.free k
        have hc2 := HG.out.2.1.cell k (by simp; omega)
        have HN : Hid (Got w1 (wr.setCell ⟨w3.heap.size, k, none⟩ (.string (ss.getD k ByteArray.empty))) w1.heap.size w3.heap.size ss (ss.take (k + 1) ++ List.replicate (ss.length + 1 - (k + 1)) ⟨#[]⟩)) := HG.out.step hlt
        generalize (ss.take k ++ List.replicate (ss.length + 1 - k) (⟨#[]⟩ : ByteArray)).getD k ByteArray.empty = old at hc2
        generalize ss.getD k ByteArray.empty = s at hc1 HN
        clear HG
        go_wp2
        go_roundw
        case rel => exact ⟨k + 1, by omega, by go_num, HN⟩
        case measure => simp [intOf]; omega
      · have hke : k = ss.length := by omega
        have hf2 := HG.out.2.1.free ss.length
        have hc2 := HG.out.2.1.cell ss.length (by simp; omega)
        have HN : Hid (Got w1 (wr.setCell ⟨w3.heap.size, ss.length, none⟩ (.string x)) w1.heap.size w3.heap.size ss (ss ++ [x])) := HG.out.last hke x
        generalize (ss.take k ++ List.replicate (ss.length + 1 - k) (⟨#[]⟩ : ByteArray)).getD ss.length ByteArray.empty = old at hc2
        clear HG hke
        go_wp2_with fail
        refine (zzand_n J w3.heap.size (ss.length + 1) (ss.length + 1) ss x _ rfl (by exact HN.out.2.1) (Nat.le_refl _) (by omega) (by omega) (by omega)).mono ?_
        rintro e w5 ⟨rg, rfl, hrg, hb5⟩
        have H5 : Hid (rg.data.toList = andOf ss x ∧ Row w5 w1.heap.size ss ∧ Below w1.heap.size w1 w5) := ⟨hrg, HN.out.1.later hb5, HN.out.2.2.1.trans (hb5.mono HN.out.2.2.1.size)⟩
        clear HN hrg hb5 hf2 hc2
        by_cases hk0 : ss.length = 0
        · obtain rfl : ss = [] := List.eq_nil_of_length_eq_zero hk0
          obtain rfl : rg = x := Go.WideShapes.bytes_inj (by simpa [andOf] using H5.out.1)
          go_wp2
          go_ret
          exact Yes.of (by simp) H5.out.2.2
        · obtain ⟨vs, z, hss, hvl⟩ := snoc_of ss (by omega)
          have HE : Hid (ss = vs ++ [z] ∧ vs.length = ss.length - 1 ∧ tot ss = tot vs + z.size) := ⟨hss, hvl, by rw [hss, tot_append]; simp [tot]⟩
          have hts : tot vs + z.size ≤ 1048576 := by have := HE.out.2.2; omega
          clear hss hvl
          go_wp2_with fail
          refine (zzand_n J w1.heap.size ss.length ss.length vs z _ (by have := HE.out.2.1; omega) (by have := H5.out.2.1; rwa [HE.out.1] at this) (Nat.le_refl _) (by omega) (by omega) hts).mono ?_
          rintro e w6 ⟨rb, rfl, hrb, hb6⟩
          have H6 : Hid (rg.data.toList = andOf ss x ∧ rb.data.toList = andOf vs z ∧ Below w1.heap.size w1 w6) := ⟨H5.out.1, hrb, H5.out.2.2.trans (hb6.mono H5.out.2.2.size)⟩
          have hr6 : Row w6 w1.heap.size ss := H5.out.2.1.later hb6
          clear H5 hrb hb6
          by_cases hk1 : ss.length ≤ 1
          · have hv : vs = [] := List.eq_nil_of_length_eq_zero (by have := HE.out.2.1; omega)
            subst hv
            have hc0 : w6.cell? ⟨w1.heap.size, 0, none⟩ = some (.string z) := hr6.at 0 z (by rw [HE.out.1]; rfl)
            obtain rfl : rb = z := Go.WideShapes.bytes_inj (by simpa [andOf] using H6.out.2.1)
            have hxs : x.size ≤ 1048576 := by omega
            clear hr6 hb'
            go_wp2
            go_ret
            exact Yes.of (got_one (by have := H6.out.1; rwa [HE.out.1] at this)) H6.out.2.2
          · have hcl : w6.cell? ⟨w1.heap.size, ss.length - 1, none⟩ = some (.string z) := hr6.at _ z (by have := HE.out.2.1; rw [← this, HE.out.1]; simp)
            have hvn : vs ≠ [] := by intro h; have := HE.out.2.1; rw [h] at this; simp at this; omega
            have hJ : rb.data.toList = Lib.join (bs vs) [44, 32] ++ [32, 97, 110, 100, 32] ++ z.data.toList := by rw [H6.out.2.1, andOf, if_neg hvn]
            have hp3 := join_le vs
            have hp1 := size_J hJ
            have hp2 : z.size + 5 ≤ rb.size := by omega
            have hp4 : rb.size ≤ 16777216 := by have := HE.out.2.1; omega
            have hq := tail_ok hJ
            have hxs : x.size ≤ 1048576 := by omega
            clear hr6 hb' hJ hp1 hp3
            have HV : Hid (vs ≠ []) := hvn
            clear hvn
            go_wp2
            go_ret
            exact Yes.of (got_many HV.out (by have := H6.out.1; rwa [HE.out.1] at this) H6.out.2.1) H6.out.2.2

theorem lawA (J : JoinSays) (a0 : Option Addr) (cap : Nat) (ss : List ByteArray) (x : ByteArray) (w : World) (hs : StrsAt w a0 ss) (hnil : a0 = none → ss = [])
    (hm : ∀ s ∈ ss, s.size ≤ maxLen) (hx : x.size ≤ maxLen) :
    Calls Try.prog 3 #[.slice a0 ss.length cap, .string x] w (Yes w) := by
  cases a0 with
  | none =>
    obtain rfl : ss = [] := hnil rfl
    exact lawA_nil J cap x w hx
  | some ad => exact lawA_some J ad cap ss x w hs hm hx

end Go.Proofs.Qxb6617631a
