import Derived.Test.Qxb6616170aWm
namespace Go.Proofs.Qxb6616170a
open Go.RowKit

def uvI (x : Nat) : List Int := (Lib.uvarint x).map fun b => (b.toNat : Int)
theorem byteCells_uvI (x : Nat) : Lib.byteCells (Lib.uvarint x) = (uvI x).map (Value.int .u8) := by simp [Lib.byteCells, uvI]
theorem uvI_length (x : Nat) : (uvI x).length = (Lib.uvarint x).length := by simp [uvI]
theorem bys_getD (f : Nat → Int) (n : Nat) : bys (fun i => (bys f 0 n).getD i 0) 0 n = bys f 0 n := by
  apply List.ext_getElem?
  intro i
  by_cases h : i < n
  · rw [bys_get _ 0 n i (by omega), bys_get f 0 n i (by omega), List.getD_eq_getElem?_getD, Nat.zero_add, bys_get f 0 n i (by omega)]
    simp
  · rw [List.getElem?_eq_none (by simp [bys]; omega), List.getElem?_eq_none (by simp [bys]; omega)]
theorem SeesB.congr {w : World} {a : Option Addr} {n : Nat} {f g : Nat → Int} (h : SeesB w a n f) (hf : ∀ i, i < n → f i = g i) : SeesB w a n g := by
  intro i hi
  obtain ⟨b, off, h1, h2, h3⟩ := h i hi
  exact ⟨b, off, h1, h2, by rw [← hf i hi]; exact h3⟩
theorem bys_at (f : Nat → Int) (n i : Nat) (h : i < n) : (bys f 0 n).getD i 0 = f i := by
  rw [List.getD_eq_getElem?_getD, bys_get f 0 n i (by omega)]
  simp

set_option maxRecDepth 20000 in
set_option maxHeartbeats 3200000 in
theorem law_any (a0 a1 : Option Addr) (n0 c0 n1 c1 : Nat) (f0 f1 : Nat → Int) (w : World) (hm0 : n0 ≤ maxLen) (hm1 : n1 ≤ maxLen) (ha0 : a0 = none → n0 = 0) (ha1 : a1 = none → n1 = 0) (hc1 : n1 ≤ c1) (hs0 : SeesB w a0 n0 f0) (hs1 : SeesB w a1 n1 f1) :
    Calls Try.prog 6 #[.slice a0 n0 c0, .slice a1 n1 c1] w fun e w' => e = .returned (.bool true) ∧ Below w.heap.size w w' := by
  have HA0 := hide ha0
  have HA1 := hide ha1
  have HS0 := hide hs0
  have HS1 := hide hs1
  clear ha0 ha1 hs0 hs1
  obtain ⟨i5, hi5, hz5, hsz5, hby5⟩ := info_parts info5
  go_enter Try.func6, Try.ntmps6
  go_wp2_with fail
  refine (bytes_any a0 a1 n0 n1 c0 c1 w hm0 hm1).mono ?_
  rintro e w1 ⟨⟨q, rfl, hq⟩, hw1⟩
  subst hw1
  cases q
  case false =>
    go_wp2
    go_ret
    exact ⟨rfl, Below.refl _ _⟩
  have hsum := hq rfl
  clear hq hm0 hm1
  by_cases hz : n1 = 0
  · subst hz
    go_wp2
    go_ret
    exact ⟨rfl, Below.refl _ _⟩
  have gz : ((n1 : Int) == 0) = false := by simp [hz]
  have h0 : 0 < n1 := by omega
  obtain ⟨b, off, ha, hbl, hc⟩ := HS1.out 0 h0
  subst ha
  rw [Nat.add_zero] at hc
  have HBL := hide hbl
  clear hbl
  go_upto_region 7 with fail
  go_cut [35] (fun t wc => wc = w1 ∧ ((t = .bool true) ∨ (t = .bool false ∧ ∃ obj : Bool, f1 0 = if obj then 123 else 91)))
  case first =>
    by_cases h91 : f1 0 = 91
    · have g : (f1 0 != 91) = false := by simp [h91]
      have H := hide h91
      clear h91
      go_wp2
      go_meet
      case rel => exact ⟨rfl, .inr ⟨rfl, false, H.out⟩⟩
    have g : (f1 0 != 91) = true := by simp [h91]
    clear h91
    by_cases h91 : f1 0 = 123
    · have g2 : (f1 0 != 123) = false := by simp [h91]
      have H := hide h91
      clear h91
      go_wp2
      go_meet
      case rel => exact ⟨rfl, .inr ⟨rfl, true, H.out⟩⟩
    have g2 : (f1 0 != 123) = true := by simp [h91]
    clear h91
    go_wp2
    go_meet
    case rel => exact ⟨rfl, .inl rfl⟩
  case rest =>
    obtain ⟨hw, hB⟩ := hcut
    subst hw
    rename World => w0
    rcases hB with rfl | ⟨rfl, obj, hob⟩
    · go_wp2
      go_ret
      exact ⟨rfl, Below.refl _ _⟩
    have HOB := hide hob
    clear hob hc
    go_wp2_with fail
    refine (container_top _ n1 c1 f1 obj w0 (by omega) hc1 h0 HS1.out HOB.out).mono ?_
    rintro e wa (⟨rfl, hbel, _⟩ | ⟨r, its, vb, rfl, hbo, hco, hwh, hil, hib⟩)
    · have HB := hide hbel
      clear hbel
      go_wp2
      go_ret
      exact ⟨rfl, HB.out⟩
    have HBA := hide hbo.bel
    have HOB1 := hide (hbo.yes rfl)
    have HWH := hide hwh
    have hza := hbo.bel.size
    have HSA0 := hide (HS0.out.below hbo.bel)
    have HSA1 := hide (HS1.out.below hbo.bel)
    clear hbo hco hwh
    obtain ⟨is, his⟩ : ∃ is, is = itsB f1 its := ⟨_, rfl⟩
    rw [← his] at HOB1 hib
    have HIS := hide his
    clear his
    go_wp2_with fail
    refine (clone_any a0 n0 c0 f0 wa (by omega) HA0.out HSA0.out).mono ?_
    rintro e wb ⟨ad, rfl, hod, hbb⟩
    have hzb := hbb.size
    have HOD := hide hod
    have HBB := hide hbb
    have HLD := hide hod.lt
    have HSB1 := hide (HSA1.out.below hbb)
    clear hod hbb
    go_wp2_with fail
    refine (clone_any _ n1 c1 f1 wb (by omega) HA1.out HSB1.out).mono ?_
    rintro e wc ⟨av, rfl, hov, hbc⟩
    have hzc := hbc.size
    have HOV := hide hov
    have HLV := hide hov.lt
    have HBC := hide hbc
    clear hov hbc
    -- dst's clone once more
    obtain ⟨ad', cd', had, _, hsd⟩ := SeesB.ofOwns (xs := bys f0 0 n0) (by rw [bys_length]; omega) (ownsRow_below HOD.out HBC.out)
    obtain ⟨rfl, rfl⟩ : ad = ad' ∧ n0 = cd' := by cases had; exact ⟨rfl, rfl⟩
    have HSD := hide hsd
    clear had hsd
    have HAD : Hid (ad = none → n0 = 0) := by
      intro e
      subst e
      rcases HOD.out.2 with ⟨_, h⟩ | ⟨g, cap, cur, h, _⟩
      · exact h
      · cases h
    go_wp2_with fail
    refine (clone_any ad n0 n0 _ wc (by omega) HAD.out HSD.out).mono ?_
    rintro e wd ⟨aw, rfl, how, hbd⟩
    rw [bys_getD] at how
    have hzd := hbd.size
    have HOW := hide how
    have HBD := hide hbd
    clear how hbd
    go_wp2_with fail
    refine (zzUvarint_any wc.heap.size n0 its.length _ _ wd (by omega) (by omega) hzd HOW.out).mono ?_
    rintro e we ⟨vw, rfl, hG⟩
    have hze := hG.kept.size
    have HGW := hide hG
    clear hG
    have HL1 := hide (Lib.uvarint_length64 (show its.length < 18446744073709551616 by omega))
    have hlw := HOW.out.lt
    have HXC : Hid (Below wc.heap.size wc we) := HBD.out.trans (HGW.out.kept.below hzd (fun k hk e => by have := (hlw k e).1; omega))
    have HXB : Hid (Below wb.heap.size wb we) := HBC.out.trans (HXC.out.mono hzc)
    have HXA : Hid (Below wa.heap.size wa we) := HBB.out.trans (HXB.out.mono hzb)
    have HLW := hide hlw
    clear hlw
    obtain ⟨uv, huv⟩ : ∃ uv, uv = Lib.uvarint its.length := ⟨_, rfl⟩
    rw [← huv] at HGW HL1
    have HUV := hide huv
    clear huv
    have hl10 := HL1.out
    have HBOD := hide (ownsRow_below HOB1.out HXA.out)
    go_upto_region 15 with fail
    go_cut [8] (fun t wx => Grew wc.heap.size wd wx (.slice aw n0 n0) t (n0 + uv.length + is.length) (((bys f0 0 n0).map (Value.int .u8) ++ Lib.byteCells uv) ++ is.map (Value.int .u8)))
    case first =>
      rcases HBOD.out.2 with ⟨hv, hl⟩ | ⟨g, cap, cur, hv, _⟩
      · subst hv
        have his : is = [] := List.eq_nil_of_length_eq_zero hl
        have HI0 := hide his
        clear his hl
        go_wp2_with (at_builtin; refine wpList_append_none _ rfl _ _ 22 rfl wc.heap.size 5 i5 1 Try.underlying22 hi5 _ _ _ rfl HGW.out.own rfl ?_)
        go_wp2
        go_meet
        case rel => rw [HI0.out]; simpa using HGW.out
      · subst hv
        go_wp2_with (at_builtin; refine wpList_append_own_at _ rfl _ _ 22 rfl wc.heap.size 5 i5 _ 1 1 Try.underlying22 hi5 hz5 hsz5 hby5 rfl (by omega) _ (n0 + uv.length) _ rfl HGW.out.own ⟨g, 0, none⟩ is.length _ (is.map (Value.int .u8)) rfl ?h0 (HBOD.out.cells rfl) ?h4 ?h1 ?h2 ?h3 ?_)
        case h0 => rw [List.length_map]; omega
        case h1 => unfold maxLen; omega
        case h2 => omega
        case h3 => omega
        case h4 => intro u hu; simp at hu; obtain ⟨x, _, rfl⟩ := hu; rfl
        intro v' w' hown hg _ hat
        have HN := hide (HGW.out.app (Below.refl _ _) hown hg hat)
        clear hown hg hat
        go_wp2
        go_meet
        case rel => have hq := HN.out; rw [← List.append_assoc] at hq; exact hq
    case rest =>
      have HGF := hide hcut
      clear hcut
      rename World => wf
      have hzf := HGF.out.kept.size
      have HYC : Hid (Below wc.heap.size wc wf) := HBD.out.trans (HGF.out.kept.below hzd (fun k hk e => by have := (HLW.out k e).1; omega))
      have HYB : Hid (Below wb.heap.size wb wf) := HBC.out.trans (HYC.out.mono hzc)
      have HYA : Hid (Below wa.heap.size wa wf) := HBB.out.trans (HYB.out.mono hzb)
      obtain ⟨av', cv', hav, _, hsv⟩ := SeesB.ofOwns (xs := bys f1 0 n1) (by rw [bys_length]; omega) (ownsRow_below HOV.out HYC.out)
      obtain ⟨rfl, rfl⟩ : av = av' ∧ n1 = cv' := by cases hav; exact ⟨rfl, rfl⟩
      have hsv' : SeesB wf av n1 f1 := hsv.congr (fun i hi => bys_at f1 n1 i hi)
      obtain ⟨bv, ov, hbv, hbvl, _⟩ := hsv' 0 h0
      subst hbv
      have HSV := hide hsv'
      have HNE : Hid ((Value.slice ad n0 n0).ownBlock ≠ some bv) := by
        intro e
        have h1 := (HLD.out bv e).2
        have h2 := (HLV.out bv rfl).1
        omega
      have HODF := hide (ownsRow_below HOD.out HYB.out)
      clear hav hsv hsv' hbvl
      go_wp2_with fail
      refine (zzAppendCounted_any wa.heap.size n0 bv ov n1 n1 f1 obj its _ _ wf (by omega) (Nat.le_refl _) h0 HOB.out HWH.out hil (by rw [← HIS.out]; exact hib) (by omega) HYA.out.size HODF.out HSV.out HNE.out).mono ?_
      rintro e wg ⟨vg, rfl, hog, hkg⟩
      rw [← HUV.out, ← HIS.out] at hog
      have hbc : Lib.byteCells uv = (uv.map fun b => (b.toNat : Int)).map (Value.int .u8) := by simp [Lib.byteCells]
      have hgf := HGF.out.own
      rw [hbc, ← List.map_append, ← List.map_append] at hog hgf
      have hlen : n0 + uv.length + is.length = ((bys f0 0 n0 ++ uv.map fun b => (b.toNat : Int)) ++ is).length := by rw [List.length_append, List.length_append, bys_length, List.length_map]; omega
      have hvt := hkg.owns hgf (fun k hk e => by
        have h1 := (hgf.lt k hk).1
        have h2 := (HLD.out k e).2
        omega)
      obtain ⟨ag, cg, hg1, _, hg2⟩ := SeesB.ofOwns hlen hog
      obtain ⟨at_, ct, ht1, _, ht2⟩ := SeesB.ofOwns hlen hvt
      have HG2 := hide hg2
      have HT2 := hide ht2
      have HKG := hide hkg
      have HBW : Hid (Below w0.heap.size w0 wg) := (HBA.out.trans (HYA.out.mono hza)).trans (hkg.below (by have := HYA.out.size; omega) (fun k hk e => by have := (HLD.out k e).1; omega))
      clear hog hgf hvt hg2 ht2 hkg hbc hlen
      subst hg1 ht1
      go_wp2_with fail
      refine (eq_any ag at_ _ cg ct _ wg (by omega) HG2.out HT2.out).mono ?_
      rintro e wh ⟨rfl, hd⟩
      have HD := hide hd
      clear hd
      go_wp2
      go_ret
      exact ⟨rfl, HBW.out.trans (HD.out.below _)⟩
end Go.Proofs.Qxb6616170a
