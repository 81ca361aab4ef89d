/-
  THE WALK OF FnAndFrontWords.
-/
import Derived.Test.Qxb6617631aLawA2
import Derived.Test.Qxb6617631aComma
import Derived.Test.Qxb6617631aBytesB
namespace Go.Proofs.Qxb6617631a
open Go.RowKit
set_option linter.unusedVariables false

theorem set_step' (L : List ByteArray) (k : Nat) (e : ByteArray) (h : k < L.length) :
    (L.take k ++ List.replicate (L.length - k) e).set k (L.getD k ByteArray.empty) = L.take (k + 1) ++ List.replicate (L.length - (k + 1)) e := by
  rw [List.set_append_right _ _ (by simp; omega), show L.length - k = (L.length - (k + 1)) + 1 by omega, List.replicate_succ]
  have e1 : k - (List.take k L).length = 0 := by simp; omega
  rw [e1, List.set_cons_zero, List.take_succ_eq_append_getElem h, List.append_assoc, List.getD, List.getElem?_eq_getElem h]
  rfl

theorem front_one {rg rh z : ByteArray} {fs : List ByteArray} (hf : fs ≠ []) (h : rg.data.toList = andOf (fs ++ []) z) (hh : rh.data.toList = Lib.join (bs fs) [44, 32]) :
    (rg.toList == (rh ++ (⟨#[32, 97, 110, 100, 32]⟩ : ByteArray) ++ z).toList) = true := by
  apply str_eq
  rw [h, List.append_nil, andOf, if_neg hf, data_append, data_append, hh]

theorem front_many {rg rh rt z : ByteArray} {fs vs : List ByteArray} (hf : fs ≠ []) (hv : vs ≠ []) (h : rg.data.toList = andOf (fs ++ vs) z) (ht : rt.data.toList = andOf vs z) (hh : rh.data.toList = Lib.join (bs fs) [44, 32]) :
    (rg.toList == (rh ++ (⟨#[44, 32]⟩ : ByteArray) ++ rt).toList) = true := by
  apply str_eq
  rw [h, andOf, if_neg (by simp [hf]), data_append, data_append, hh, ht, andOf, if_neg hv, bs_append, join_append _ _ _ (by simpa [bs] using hf) (by simpa [bs] using hv)]
  simp

def nul : ByteArray := ⟨#[]⟩

/-- What is known on the way: the copy of the words at g1, the whole list, as far as it is filled, at g2. -/
def GotB (w wr : World) (g1 g2 : Nat) (ss L : List ByteArray) (k : Nat) : Prop :=
  Row wr g1 ss ∧ Row wr g2 (L.take k ++ List.replicate (L.length - k) nul) ∧ Below w.heap.size w wr ∧ w.heap.size ≤ g1 ∧ g1 < g2

theorem GotB.step {w wr : World} {g1 g2 : Nat} {ss L : List ByteArray} {k : Nat} (h : GotB w wr g1 g2 ss L k) (hk : k < L.length) :
    GotB w (wr.setCell ⟨g2, k, none⟩ (.string (L.getD k ByteArray.empty))) g1 g2 ss L (k + 1) := by
  obtain ⟨h1, h2, hb, hg, hl⟩ := h
  refine ⟨h1.other _ _ (by simp; omega), ?_, hb.setCell (by simp; omega) _, hg, hl⟩
  have := h2.set k (L.getD k ByteArray.empty)
  rwa [set_step' L k nul hk] at this

theorem GotB.whole {w wr : World} {g1 g2 : Nat} {ss L : List ByteArray} {k : Nat} (h : GotB w wr g1 g2 ss L k) (hk : L.length ≤ k) : Row wr g2 L := by
  have := h.2.1
  rwa [List.take_of_length_le hk, show L.length - k = 0 by omega, List.replicate_zero, List.append_nil] at this

theorem GotB.old {w wr : World} {g1 g2 : Nat} {ss L : List ByteArray} {k : Nat} (h : GotB w wr g1 g2 ss L k) (j : Nat) (hj : k ≤ j) (hk : j < L.length) :
    ∃ s, wr.cell? ⟨g2, j, none⟩ = some (.string s) := ⟨_, h.2.1.cell j (by simp; omega)⟩

set_option maxHeartbeats 400000 in
theorem lawB_nil (af : Option Addr) (cf cs : Nat) (fs : List ByteArray) (w : World) (hf : StrsAt w af fs) (hmf : ∀ s ∈ fs, s.size ≤ maxLen) :
    Calls Try.prog 4 #[.slice af fs.length cf, .slice none 0 cs] w (Yes w) := by
  have hneq := fun (a : Option Addr) (n c : Nat) (w : World) => run_neq_slice_nil_any (P := Try.prog) w 22 9 a n c 0 0 Try.underlying22
  have HF : Hid (StrsAt w af fs) := hf
  have HM : Hid (∀ s ∈ fs, s.size ≤ maxLen) := hmf
  clear hf hmf
  go_enter Try.func4, Try.ntmps4
  go_wp2_with fail
  refine (bytesB_any af none cf cs fs [] w HF.out (by intro h; simp at h) HM.out (by simp) (by simp)).mono ?_
  rintro e w1 ⟨b, rfl, rfl, hb⟩
  cases b with
  | false =>
    clear hb
    go_wp2
    go_ret
    exact Yes.mk (Below.refl _ _)
  | true =>
    have hb' := hb rfl
    clear hb HM
    simp only [List.length_nil, tot] at hb'
    by_cases hl : 65536 < fs.length
    · go_wp2
      go_ret
      exact Yes.mk (Below.refl _ _)
    go_wp2_with fail
    refine (sum_any af cf fs _ _ (by omega) HF.out).mono ?_
    rintro e w1 ⟨m, rfl, rfl⟩
    by_cases hm : 1048576 < m
    · go_wp2
      go_ret
      exact Yes.mk (Below.refl _ _)
    go_wp2_with fail
    refine (sum_none none cs _ _).mono ?_
    rintro e w1 ⟨m2, rfl, rfl⟩
    by_cases hm2 : 1048576 < m2
    · go_wp2
      go_ret
      exact Yes.mk (Below.refl _ _)
    go_wp2
    go_ret
    exact Yes.mk (Below.refl _ _)

set_option maxHeartbeats 2000000 in
theorem lawB_ff (J : JoinSays) (bf of1 : Nat) (ad : Addr) (cf cs : Nat) (fs ss : List ByteArray) (w : World) (hbf : bf < w.heap.size) (hfp : 0 < fs.length) (hcf : ∀ i, i < fs.length → w.cell? ⟨bf, of1 + i, none⟩ = some (.string (fs.getD i ByteArray.empty))) (hf : StrsAt w (some ⟨bf, of1, none⟩) fs) (hs : StrsAt w (some ad) ss)
    (hmf : ∀ s ∈ fs, s.size ≤ maxLen) (hms : ∀ s ∈ ss, s.size ≤ maxLen) (hns : ss.length ≤ maxLen) :
    Calls Try.prog 4 #[.slice (some ⟨bf, of1, none⟩) fs.length cf, .slice (some ad) ss.length cs] w (Yes w) := by
  have hneq := fun (a : Option Addr) (n c : Nat) (w : World) => run_neq_slice_nil_any (P := Try.prog) w 22 9 a n c 0 0 Try.underlying22
  have HF : Hid (StrsAt w (some ⟨bf, of1, none⟩) fs) := hf
  have HS : Hid (StrsAt w (some ad) ss) := hs
  have HM : Hid ((∀ s ∈ fs, s.size ≤ maxLen) ∧ (∀ s ∈ ss, s.size ≤ maxLen) ∧ ss.length ≤ maxLen) := ⟨hmf, hms, hns⟩
  have HCF : Hid (∀ i, i < fs.length → w.cell? ⟨bf, of1 + i, none⟩ = some (.string (fs.getD i ByteArray.empty))) := hcf
  clear hf hmf hs hms hns hcf
  go_enter Try.func4, Try.ntmps4
  go_wp2_with fail
  refine (bytesB_any (some ⟨bf, of1, none⟩) (some ad) cf cs fs ss w HF.out HS.out HM.out.1 HM.out.2.1 HM.out.2.2).mono ?_
  rintro e w1 ⟨b, rfl, rfl, hb⟩
  cases b with
  | false =>
    clear hb
    go_wp2
    go_ret
    exact Yes.mk (Below.refl _ _)
  | true =>
    have hb' := hb rfl
    clear hb HM
    by_cases hl : 65536 < fs.length
    · go_wp2
      go_ret
      exact Yes.mk (Below.refl _ _)
    by_cases hl2 : 65536 < ss.length
    · go_wp2
      go_ret
      exact Yes.mk (Below.refl _ _)
    go_wp2_with (at_make; refine make_strs _ rfl _ _ rfl _ _ ss.length rfl rfl rfl rfl (by omega) ?_)
    intro w2 hr hbel
    have H2 : Hid (Row w2 w1.heap.size (List.replicate ss.length ⟨#[]⟩) ∧ Below w1.heap.size w1 w2 ∧ StrsAt w2 (some ad) ss) := ⟨hr, hbel, by
      intro h0
      obtain ⟨b, off, e, hb, hc⟩ := HS.out h0
      exact ⟨b, off, e, Nat.lt_of_lt_of_le hb hbel.size, fun i hi => (hbel.cell (p := ⟨b, off + i, none⟩) hb).trans (hc i hi)⟩⟩
    clear hr hbel HS
    go_wp2_with (refine copy_strs _ w1 w1.heap.size rfl _ _ rfl w1.heap.size ss (List.replicate ss.length ⟨#[]⟩) (some ad) cs rfl rfl H2.out.1 (by simp) H2.out.2.2 H2.out.2.1 (Nat.le_refl _) ?_)
    intro w3 hr3 hb3
    have H3 : Hid (Row w3 w1.heap.size ss ∧ Below w1.heap.size w1 w3 ∧ StrsAt w3 (some ⟨bf, of1, none⟩) fs ∧ StrsAt w3 (some ⟨w1.heap.size, 0, none⟩) ss) := ⟨hr3, hb3, by
      intro h0
      obtain ⟨b, off, e, hb, hc⟩ := HF.out h0
      exact ⟨b, off, e, Nat.lt_of_lt_of_le hb hb3.size, fun i hi => (hb3.cell (p := ⟨b, off + i, none⟩) hb).trans (hc i hi)⟩, by
      intro h0
      exact ⟨_, 0, rfl, hr3.lt, fun i hi => by rw [Nat.zero_add]; exact hr3.cell i hi⟩⟩
    clear hr3 hb3 H2
    go_wp2_with fail
    refine (sum_any (some ⟨bf, of1, none⟩) cf fs _ _ (by omega) H3.out.2.2.1).mono ?_
    rintro e w4 ⟨m, rfl, rfl⟩
    by_cases hm : 1048576 < m
    · go_wp2
      go_ret
      exact Yes.mk H3.out.2.1
    go_wp2_with fail
    refine (sum_any (some ⟨w1.heap.size, 0, none⟩) ss.length ss _ _ (by omega) H3.out.2.2.2).mono ?_
    rintro e w5 ⟨m2, rfl, rfl⟩
    by_cases hm2 : 1048576 < m2
    · go_wp2
      go_ret
      exact Yes.mk H3.out.2.1
    by_cases hs0 : ss.length ≤ 0
    · go_wp2
      go_ret
      exact Yes.mk H3.out.2.1
    go_wp2_with (at_make; refine make_strs _ rfl _ _ rfl _ _ (fs.length + ss.length) rfl rfl (by omega) (by omega) (by omega) ?_)
    intro w6 hr6 hb6
    obtain ⟨L, hL⟩ : ∃ L, L = fs ++ ss := ⟨_, rfl⟩
    have hL1 : L.length ≤ fs.length + ss.length := by rw [hL]; simp
    have hL2 : fs.length + ss.length ≤ L.length := by rw [hL]; simp
    have HL : Hid (L = fs ++ ss) := hL
    have H6 : Hid (GotB w1 w6 w1.heap.size w5.heap.size ss L 0) :=
      ⟨H3.out.1.later hb6, by have e : fs.length + ss.length = L.length := by omega
                              rw [e] at hr6; simpa [nul] using hr6, H3.out.2.1.trans (hb6.mono H3.out.2.1.size), Nat.le_refl _, H3.out.1.lt⟩
    clear hr6 hb6 H3 hL
    generalize w5.heap.size = g2 at H6
    go_wp2
    go_loopw [8] (fun i wr => ∃ k : Nat, k ≤ fs.length ∧ i = .int .i64 k ∧ Hid (GotB w1 wr w1.heap.size g2 ss L k)) (fun i _ => fs.length - (intOf i).toNat)
    case atStart => exact ⟨0, Nat.zero_le _, rfl, H6⟩
    case round =>
      obtain ⟨k, hk, rfl, HG⟩ := hrel
      clear H6
      by_cases hlt : k < fs.length
      · have hc1 : wr.cell? ⟨bf, of1 + k, none⟩ = some (.string (L.getD k ByteArray.empty)) := by
          have := (HG.out.2.2.1.cell (p := ⟨bf, of1 + k, none⟩) hbf).trans (HCF.out k hlt)
          rw [this, HL.out]
          simp [List.getD, List.getElem?_append_left hlt]
        have hf2 := HG.out.2.1.free k
        obtain ⟨old, hc2⟩ := HG.out.old k (by omega) (by omega)
        have HN : Hid (GotB w1 (wr.setCell ⟨g2, k, none⟩ (.string (L.getD k ByteArray.empty))) w1.heap.size g2 ss L (k + 1)) := HG.out.step (by omega)
        generalize L.getD k ByteArray.empty = s at hc1 HN
        clear HG
        go_wp2
        go_roundw
        case rel => exact ⟨k + 1, by omega, by go_num, HN⟩
        case measure => simp [intOf]; omega
      · obtain ⟨wo, rfl⟩ : ∃ wo : World, wo = wr := ⟨_, rfl⟩
        have H7 : Hid (GotB w1 wo w1.heap.size g2 ss L (fs.length + 0)) := by
          have e : k = fs.length + 0 := by omega
          have := HG.out
          rw [e] at this
          exact this
        clear HG
        go_wp2
        go_loopw [9] (fun i wr => ∃ j : Nat, j ≤ ss.length ∧ i = .int .i64 j ∧ Hid (GotB w1 wr w1.heap.size g2 ss L (fs.length + j))) (fun i _ => ss.length - (intOf i).toNat)
        case atStart => exact ⟨0, Nat.zero_le _, rfl, H7⟩
        case round =>
          obtain ⟨j, hj, rfl, HG⟩ := hrel
          clear H7
          by_cases hlt : j < ss.length
          · have hc1 : wr.cell? ⟨w1.heap.size, j, none⟩ = some (.string (L.getD (fs.length + j) ByteArray.empty)) := by
              have := HG.out.1.cell j hlt
              rw [this, HL.out]
              simp [List.getD, List.getElem?_append_right]
            have hf2 := HG.out.2.1.free (fs.length + j)
            obtain ⟨old, hc2⟩ := HG.out.old (fs.length + j) (by omega) (by omega)
            have HN : Hid (GotB w1 (wr.setCell ⟨g2, fs.length + j, none⟩ (.string (L.getD (fs.length + j) ByteArray.empty))) w1.heap.size g2 ss L (fs.length + (j + 1))) := HG.out.step (by omega)
            generalize L.getD (fs.length + j) ByteArray.empty = s at hc1 HN
            clear HG
            go_wp2
            go_roundw
            case rel => exact ⟨j + 1, by omega, by go_num, HN⟩
            case measure => simp [intOf]; omega
          · obtain ⟨vs, z, hss, hvl⟩ := snoc_of ss (by omega)
            have HE : Hid (ss = vs ++ [z] ∧ vs.length = ss.length - 1 ∧ tot ss = tot vs + z.size) := ⟨hss, hvl, by rw [hss, tot_append]; simp [tot]⟩
            have hts : tot fs + tot vs + z.size ≤ 1048576 := by have := HE.out.2.2; omega
            have HW : Hid (Row wr g2 ((fs ++ vs) ++ [z]) ∧ Row wr w1.heap.size (vs ++ [z]) ∧ Below w1.heap.size w1 wr) :=
              ⟨by have := HG.out.whole (by omega); rw [HL.out, HE.out.1] at this; simpa using this, by have := HG.out.1; rwa [HE.out.1] at this, HG.out.2.2.1⟩
            clear hss hvl HG HL
            go_wp2_with fail
            refine (zzand_n J g2 (fs.length + ss.length) (fs.length + ss.length) (fs ++ vs) z _ (by have := HE.out.2.1; simp; omega) HW.out.1 (Nat.le_refl _) (by omega) (by omega) (by rw [tot_append]; omega)).mono ?_
            rintro e w7 ⟨rg, rfl, hrg, hb7⟩
            have H7 : Hid (rg.data.toList = andOf (fs ++ vs) z ∧ Row w7 w1.heap.size (vs ++ [z]) ∧ Below w1.heap.size w1 w7) := ⟨hrg, HW.out.2.1.later hb7, HW.out.2.2.trans (hb7.mono HW.out.2.2.size)⟩
            clear HW hrg hb7
            go_wp2_with fail
            refine (zzand_n J w1.heap.size ss.length ss.length vs z _ (by have := HE.out.2.1; omega) H7.out.2.1 (Nat.le_refl _) (by omega) (by omega) (by omega)).mono ?_
            rintro e w8 ⟨rt, rfl, hrt, hb8⟩
            have H8 : Hid (rg.data.toList = andOf (fs ++ vs) z ∧ rt.data.toList = andOf vs z ∧ Row w8 w1.heap.size (vs ++ [z]) ∧ Below w1.heap.size w1 w8) :=
              ⟨H7.out.1, hrt, H7.out.2.1.later hb8, H7.out.2.2.trans (hb8.mono H7.out.2.2.size)⟩
            clear H7 hrt hb8
            have hcf8 : Hid (∀ i, i < fs.length → w8.cell? ⟨bf, of1 + i, none⟩ = some (.string (fs.getD i ByteArray.empty))) := fun i hi => (H8.out.2.2.2.cell (p := ⟨bf, of1 + i, none⟩) hbf).trans (HCF.out i hi)
            go_wp2_with fail
            refine (comma_any bf of1 cf fs _ (by omega) (by omega) hfp (by exact Nat.lt_of_lt_of_le hbf H8.out.2.2.2.size) hcf8.out).mono ?_
            rintro e w9 ⟨rh, rfl, hrh, hb9⟩
            have hrhs : rh.size ≤ 2097152 := by have := join_le fs; rw [Lib.size_eq, hrh]; omega
            have H9 : Hid (fs ≠ [] ∧ rg.data.toList = andOf (fs ++ vs) z ∧ rt.data.toList = andOf vs z ∧ rh.data.toList = Lib.join (bs fs) [44, 32] ∧ Row w9 w1.heap.size (vs ++ [z]) ∧ Below w1.heap.size w1 w9) :=
              ⟨List.ne_nil_of_length_pos hfp, H8.out.1, H8.out.2.1, hrh, H8.out.2.2.1.later hb9, H8.out.2.2.2.trans (hb9.mono H8.out.2.2.2.size)⟩
            clear H8 hrh hb9 hcf8
            by_cases hs1 : ss.length ≤ 1
            · have hv : vs = [] := List.eq_nil_of_length_eq_zero (by have := HE.out.2.1; omega)
              subst hv
              have hc0 : w9.cell? ⟨w1.heap.size, 0, none⟩ = some (.string z) := H9.out.2.2.2.2.1.at 0 z rfl
              obtain rfl : rt = z := Go.WideShapes.bytes_inj (by simpa [andOf] using H9.out.2.2.1)
              have hrs : rt.size ≤ 1048576 := by omega
              clear hb'
              go_wp2
              go_ret
              exact Yes.of (front_one H9.out.1 H9.out.2.1 H9.out.2.2.2.1) H9.out.2.2.2.2.2
            · have hvn : vs ≠ [] := by intro h; have := HE.out.2.1; rw [h] at this; simp at this; omega
              have hJ : rt.data.toList = Lib.join (bs vs) [44, 32] ++ [32, 97, 110, 100, 32] ++ z.data.toList := by rw [H9.out.2.2.1, andOf, if_neg hvn]
              have hrs : rt.size ≤ 4194304 := by have := size_J hJ; have := join_le vs; have := HE.out.2.1; omega
              have HV : Hid (vs ≠ []) := hvn
              clear hb' hJ hvn
              go_wp2
              go_ret
              exact Yes.of (front_many H9.out.1 HV.out H9.out.2.1 H9.out.2.2.1 H9.out.2.2.2.1) H9.out.2.2.2.2.2


set_option maxHeartbeats 2000000 in
theorem lawB_f0 (J : JoinSays) (af : Option Addr) (ad : Addr) (cf cs : Nat) (fs ss : List ByteArray) (w : World) (hf0 : fs.length ≤ 0) (hf : StrsAt w af fs) (hs : StrsAt w (some ad) ss)
    (hmf : ∀ s ∈ fs, s.size ≤ maxLen) (hms : ∀ s ∈ ss, s.size ≤ maxLen) (hns : ss.length ≤ maxLen) :
    Calls Try.prog 4 #[.slice af fs.length cf, .slice (some ad) ss.length cs] w (Yes w) := by
  have hneq := fun (a : Option Addr) (n c : Nat) (w : World) => run_neq_slice_nil_any (P := Try.prog) w 22 9 a n c 0 0 Try.underlying22
  have HF : Hid (StrsAt w af fs) := hf
  have HS : Hid (StrsAt w (some ad) ss) := hs
  have HM : Hid ((∀ s ∈ fs, s.size ≤ maxLen) ∧ (∀ s ∈ ss, s.size ≤ maxLen) ∧ ss.length ≤ maxLen) := ⟨hmf, hms, hns⟩
  clear hf hmf hs hms hns
  go_enter Try.func4, Try.ntmps4
  go_wp2_with fail
  refine (bytesB_any af (some ad) cf cs fs ss w HF.out HS.out HM.out.1 HM.out.2.1 HM.out.2.2).mono ?_
  rintro e w1 ⟨b, rfl, rfl, hb⟩
  cases b with
  | false =>
    clear hb
    go_wp2
    go_ret
    exact Yes.mk (Below.refl _ _)
  | true =>
    have hb' := hb rfl
    clear hb HM
    have hl : ¬ 65536 < fs.length := by omega
    by_cases hl2 : 65536 < ss.length
    · go_wp2
      go_ret
      exact Yes.mk (Below.refl _ _)
    go_wp2_with (at_make; refine make_strs _ rfl _ _ rfl _ _ ss.length rfl rfl rfl rfl (by omega) ?_)
    intro w2 hr hbel
    have H2 : Hid (Row w2 w1.heap.size (List.replicate ss.length ⟨#[]⟩) ∧ Below w1.heap.size w1 w2 ∧ StrsAt w2 (some ad) ss) := ⟨hr, hbel, by
      intro h0
      obtain ⟨b, off, e, hb, hc⟩ := HS.out h0
      exact ⟨b, off, e, Nat.lt_of_lt_of_le hb hbel.size, fun i hi => (hbel.cell (p := ⟨b, off + i, none⟩) hb).trans (hc i hi)⟩⟩
    clear hr hbel HS
    go_wp2_with (refine copy_strs _ w1 w1.heap.size rfl _ _ rfl w1.heap.size ss (List.replicate ss.length ⟨#[]⟩) (some ad) cs rfl rfl H2.out.1 (by simp) H2.out.2.2 H2.out.2.1 (Nat.le_refl _) ?_)
    intro w3 hr3 hb3
    have H3 : Hid (Row w3 w1.heap.size ss ∧ Below w1.heap.size w1 w3 ∧ StrsAt w3 af fs ∧ StrsAt w3 (some ⟨w1.heap.size, 0, none⟩) ss) := ⟨hr3, hb3, by
      intro h0
      obtain ⟨b, off, e, hb, hc⟩ := HF.out h0
      exact ⟨b, off, e, Nat.lt_of_lt_of_le hb hb3.size, fun i hi => (hb3.cell (p := ⟨b, off + i, none⟩) hb).trans (hc i hi)⟩, by
      intro h0
      exact ⟨_, 0, rfl, hr3.lt, fun i hi => by rw [Nat.zero_add]; exact hr3.cell i hi⟩⟩
    clear hr3 hb3 H2
    go_wp2_with fail
    refine (sum_any af cf fs _ _ (by omega) H3.out.2.2.1).mono ?_
    rintro e w4 ⟨m, rfl, rfl⟩
    by_cases hm : 1048576 < m
    · go_wp2
      go_ret
      exact Yes.mk H3.out.2.1
    go_wp2_with fail
    refine (sum_any (some ⟨w1.heap.size, 0, none⟩) ss.length ss _ _ (by omega) H3.out.2.2.2).mono ?_
    rintro e w5 ⟨m2, rfl, rfl⟩
    by_cases hm2 : 1048576 < m2
    · go_wp2
      go_ret
      exact Yes.mk H3.out.2.1
    by_cases hs0 : ss.length ≤ 0
    · go_wp2
      go_ret
      exact Yes.mk H3.out.2.1
    go_wp2_with (at_make; refine make_strs _ rfl _ _ rfl _ _ (fs.length + ss.length) rfl rfl (by omega) (by omega) (by omega) ?_)
    intro w6 hr6 hb6
    obtain ⟨L, hL⟩ : ∃ L, L = fs ++ ss := ⟨_, rfl⟩
    have hL1 : L.length ≤ fs.length + ss.length := by rw [hL]; simp
    have hL2 : fs.length + ss.length ≤ L.length := by rw [hL]; simp
    have HL : Hid (L = fs ++ ss) := hL
    have H6 : Hid (GotB w1 w6 w1.heap.size w5.heap.size ss L 0) :=
      ⟨H3.out.1.later hb6, by have e : fs.length + ss.length = L.length := by omega
                              rw [e] at hr6; simpa [nul] using hr6, H3.out.2.1.trans (hb6.mono H3.out.2.1.size), Nat.le_refl _, H3.out.1.lt⟩
    clear hr6 hb6 H3 hL
    generalize w5.heap.size = g2 at H6
    go_wp2
    · refine wp_loop_rounds 1 ?_
      rw [rounds_succ]
      have H7 : Hid (GotB w1 w6 w1.heap.size g2 ss L (fs.length + 0)) := by
        have e : 0 = fs.length + 0 := by omega
        have := H6.out
        rw [e] at this
        exact this
      clear H6
      · go_wp2
        go_loopw [9] (fun i wr => ∃ j : Nat, j ≤ ss.length ∧ i = .int .i64 j ∧ Hid (GotB w1 wr w1.heap.size g2 ss L (fs.length + j))) (fun i _ => ss.length - (intOf i).toNat)
        case atStart => exact ⟨0, Nat.zero_le _, rfl, H7⟩
        case round =>
          obtain ⟨j, hj, rfl, HG⟩ := hrel
          clear H7
          by_cases hlt : j < ss.length
          · have hc1 : wr.cell? ⟨w1.heap.size, j, none⟩ = some (.string (L.getD (fs.length + j) ByteArray.empty)) := by
              have := HG.out.1.cell j hlt
              rw [this, HL.out]
              simp [List.getD, List.getElem?_append_right]
            have hf2 := HG.out.2.1.free (fs.length + j)
            obtain ⟨old, hc2⟩ := HG.out.old (fs.length + j) (by omega) (by omega)
            have HN : Hid (GotB w1 (wr.setCell ⟨g2, fs.length + j, none⟩ (.string (L.getD (fs.length + j) ByteArray.empty))) w1.heap.size g2 ss L (fs.length + (j + 1))) := HG.out.step (by omega)
            generalize L.getD (fs.length + j) ByteArray.empty = s at hc1 HN
            clear HG
            go_wp2
            go_roundw
            case rel => exact ⟨j + 1, by omega, by go_num, HN⟩
            case measure => simp [intOf]; omega
          · obtain ⟨vs, z, hss, hvl⟩ := snoc_of ss (by omega)
            have HE : Hid (ss = vs ++ [z] ∧ vs.length = ss.length - 1 ∧ tot ss = tot vs + z.size) := ⟨hss, hvl, by rw [hss, tot_append]; simp [tot]⟩
            have hts : tot fs + tot vs + z.size ≤ 1048576 := by have := HE.out.2.2; omega
            have HW : Hid (Row wr g2 ((fs ++ vs) ++ [z]) ∧ Row wr w1.heap.size (vs ++ [z]) ∧ Below w1.heap.size w1 wr) :=
              ⟨by have := HG.out.whole (by omega); rw [HL.out, HE.out.1] at this; simpa using this, by have := HG.out.1; rwa [HE.out.1] at this, HG.out.2.2.1⟩
            clear hss hvl HG HL
            go_wp2_with fail
            refine (zzand_n J g2 (fs.length + ss.length) (fs.length + ss.length) (fs ++ vs) z _ (by have := HE.out.2.1; simp; omega) HW.out.1 (Nat.le_refl _) (by omega) (by omega) (by rw [tot_append]; omega)).mono ?_
            rintro e w7 ⟨rg, rfl, hrg, hb7⟩
            have H7 : Hid (rg.data.toList = andOf (fs ++ vs) z ∧ Row w7 w1.heap.size (vs ++ [z]) ∧ Below w1.heap.size w1 w7) := ⟨hrg, HW.out.2.1.later hb7, HW.out.2.2.trans (hb7.mono HW.out.2.2.size)⟩
            clear HW hrg hb7
            go_wp2_with fail
            refine (zzand_n J w1.heap.size ss.length ss.length vs z _ (by have := HE.out.2.1; omega) H7.out.2.1 (Nat.le_refl _) (by omega) (by omega) (by omega)).mono ?_
            rintro e w8 ⟨rt, rfl, hrt, hb8⟩
            have H8 : Hid (rg.data.toList = andOf (fs ++ vs) z ∧ rt.data.toList = andOf vs z ∧ Row w8 w1.heap.size (vs ++ [z]) ∧ Below w1.heap.size w1 w8) :=
              ⟨H7.out.1, hrt, H7.out.2.1.later hb8, H7.out.2.2.trans (hb8.mono H7.out.2.2.size)⟩
            clear H7 hrt hb8
            go_wp2
            go_ret
            exact Yes.of (str_eq (by rw [H8.out.1, H8.out.2.1, List.eq_nil_of_length_eq_zero (Nat.le_zero.1 hf0), List.nil_append])) H8.out.2.2.2


theorem lawB (J : JoinSays) (af aw : Option Addr) (cf cs : Nat) (fs ss : List ByteArray) (w : World) (hf : StrsAt w af fs) (hs : StrsAt w aw ss) (hnil : aw = none → ss = [])
    (hmf : ∀ s ∈ fs, s.size ≤ maxLen) (hms : ∀ s ∈ ss, s.size ≤ maxLen) (hns : ss.length ≤ maxLen) :
    Calls Try.prog 4 #[.slice af fs.length cf, .slice aw ss.length cs] w (Yes w) := by
  cases aw with
  | none =>
    obtain rfl : ss = [] := hnil rfl
    exact lawB_nil af cf cs fs w hf hmf
  | some ad =>
    by_cases hf0 : fs.length ≤ 0
    · exact lawB_f0 J af ad cf cs fs ss w hf0 hf hs hmf hms hns
    · obtain ⟨b, off, rfl, hb, hc⟩ := hf (by omega)
      exact lawB_ff J b off ad cf cs fs ss w hb (by omega) hc hf hs hmf hms hns

end Go.Proofs.Qxb6617631a
