import Derived.Test.Qxb6616170aWd
import Derived.OwnWalk
import Derived.Maps.AppendAt
namespace Go.Proofs.Qxb6616170a
open Go.RowKit

theorem info5 : (Try.prog.info? 5).map (fun i => (i.zero, i.size, i.bytes)) = some (some (.int .u8 0), 1, 1) := by kernel_rfl
theorem ownsRow_below {w w' : World} {base : Nat} {e : TypeId} {size : Nat} {v : Value} {n : Nat} {xs : List Value} (h : w.ownsRow base e size v n xs) (hb : Below w.heap.size w w') : w'.ownsRow base e size v n xs := by
  refine ⟨h.1, ?_⟩
  rcases h.2 with hn | ⟨g, cap, cur, rfl, hbg, hgg, rest⟩
  · exact .inl hn
  · exact .inr ⟨g, cap, cur, rfl, hbg, (hb.block g (Array.getElem?_eq_some_iff.1 hgg).1).trans hgg, rest⟩
theorem BodyOK.start (rec : Bool) (w : World) : BodyOK rec w w (.slice none 0 0) [] := ⟨Below.refl _ _, fun _ => ⟨rfl, Drawn.refl _⟩, fun _ => World.ownsRow_nil w _ 5 1⟩
theorem BodyOK.drawn {rec : Bool} {w0 w w' : World} {v : Value} {xs : List Int} (h : BodyOK rec w0 w v xs) (hd : Drawn w w') : BodyOK rec w0 w' v xs :=
  ⟨h.bel.trans (hd.below _), fun e => ⟨(h.no e).1, (h.no e).2.trans hd⟩, fun e => ownsRow_below (h.yes e) (hd.below _)⟩
theorem BodyOK.same {w0 w : World} {v : Value} {xs ys : List Int} (h : BodyOK false w0 w v xs) : BodyOK false w0 w v ys := ⟨h.bel, h.no, fun e => by cases e⟩
theorem BodyOK.app {w0 w w' : World} {v v' : Value} {xs ys : List Int} {k : Nat} (h : BodyOK true w0 w v xs) (hk : k = xs.length + ys.length) (ho : w'.ownsRow w0.heap.size 5 1 v' k (xs.map (Value.int .u8) ++ ys.map (Value.int .u8))) (hg : w.grownBy w' v.ownBlock) : BodyOK true w0 w' v' (xs ++ ys) := by
  refine ⟨h.bel.grown hg h.bel.size (fun k e => ((h.yes rfl).lt k e).1), fun e => (by cases e), fun _ => ?_⟩
  rw [List.length_append, List.map_append, ← hk]
  exact ho
theorem BodyOK.item {rec : Bool} {w0 w : World} {v : Value} {f : Nat → Int} {its : List It} {k ke vs ve : Nat} (h : BodyOK rec w0 w v ((itsB f its ++ bys f k ke) ++ bys f vs ve)) : BodyOK rec w0 w v (itsB f (its ++ [⟨k, ke, vs, ve⟩])) := by
  rw [itsB_snoc, itB, ← List.append_assoc]; exact h
theorem SeesB.cells {w : World} {a : Option Addr} {n : Nat} {f : Nat → Int} (h : SeesB w a n f) {b off : Nat} (ha : a = some ⟨b, off, none⟩) (i r : Nat) (hr : r ≤ n) :
    ∀ j u, ((bys f i r).map (Value.int .u8))[j]? = some u → w.cell? ((⟨b, off + i, none⟩ : Addr).add j) = some u := by
  intro j u hu
  have hj : j < r - i := by
    have := (List.getElem?_eq_some_iff.1 hu).1
    simpa [bys] using this
  rw [List.getElem?_map, bys_get f i r j hj] at hu
  obtain ⟨b', off', ha', _, hc⟩ := h (i + j) (by omega)
  rw [ha] at ha'
  cases ha'
  have hadd : (⟨b, off + i, none⟩ : Addr).add j = ⟨b, off + (i + j), none⟩ := by unfold Addr.add; simp [Nat.add_assoc]
  rw [hadd, hc]
  simpa using hu
theorem bys_one (f : Nat → Int) (i r : Nat) : ∀ u ∈ (bys f i r).map (Value.int .u8), u.oneCell' = true := by
  intro u hu
  simp at hu
  obtain ⟨x, _, rfl⟩ := hu
  rfl
theorem closer_obj (obj : Bool) : closer obj = 93 ∨ closer obj = 125 := by cases obj <;> simp [closer]

/-- What holds of zzJSContainer's loop at the item that begins at k. -/
structure CInv (f : Nat → Int) (n s : Nat) (obj rec : Bool) (w wr : World) (its : List It) (v : Value) (k : Nat) : Prop where
  le : k ≤ n
  gt : s < k
  goes : Goes f n (s + 1) k
  done : Done f n obj its (ws f n (s + 1)) k
  body : BodyOK rec w wr v (itsB f its)
  len : (itsB f its).length ≤ k
  cnt : its.length ≤ k

/-- What holds of it ahead of the value that begins at vs. -/
structure CMid (f : Nat → Int) (n s : Nat) (obj rec : Bool) (w wr : World) (its : List It) (v : Value) (k ke vs : Nat) : Prop where
  le : vs ≤ n
  ge : k ≤ vs
  goes : Goes f n (s + 1) vs
  key : obj = true → k < n ∧ f k = 34 ∧ SEnds f n (k + 1) ke ∧ ws f n ke < n ∧ f (ws f n ke) = 58 ∧ vs = ws f n (ws f n ke + 1)
  arr : obj = false → ke = k ∧ vs = k
  body : BodyOK rec w wr v (itsB f its ++ bys f k ke)
  len : (itsB f its ++ bys f k ke).length ≤ vs
theorem Ans17.no {f : Nat → Int} {n s : Nat} {obj rec : Bool} {w w' : World} {v : Value} {xs : List Int} (h : BodyOK rec w w' v xs) : Ans17 f n s obj rec w (.returned (.tuple #[.int .i64 (-1), .int .i64 0, .slice none 0 0])) w' :=
  .inl ⟨rfl, h.bel, fun e => (h.no e).2⟩
theorem CInv.mid_arr {f : Nat → Int} {n s : Nat} {rec : Bool} {w wr : World} {its : List It} {v : Value} {k : Nat} (h : CInv f n s false rec w wr its v k) : CMid f n s false rec w wr its v k k k := by
  refine ⟨h.le, Nat.le_refl _, h.goes, (fun e => by cases e), fun _ => ⟨rfl, rfl⟩, ?_, ?_⟩
  · rw [bys_nil, List.append_nil]; exact h.body
  · rw [bys_nil, List.append_nil]; exact h.len
theorem CInv.mid_obj {f : Nat → Int} {n s : Nat} {rec : Bool} {w wr wd : World} {its : List It} {v v' : Value} {k ke : Nat} (h : CInv f n s true rec w wr its v k) (h1 : k < n) (h2 : f k = 34) (h3 : SEnds f n (k + 1) ke) (h4 : ws f n ke < n) (h5 : f (ws f n ke) = 58)
    (hb : BodyOK rec w wd v' (itsB f its ++ bys f k ke)) : CMid f n s true rec w wd its v' k ke (ws f n (ws f n ke + 1)) := by
  have a := Goes.str h1 h2 h3
  have b := Goes.ws (f := f) h3.bd.2
  have c := Goes.oth (f := f) (n := n) h4 (by omega)
  have d := Goes.ws (f := f) (n := n) (i := ws f n ke + 1) (by omega)
  have g := ((a.trans b).trans c).trans d
  refine ⟨g.2.1, g.1, h.goes.trans g, fun _ => ⟨h1, h2, h3, h4, h5, rfl⟩, (fun e => by cases e), hb, ?_⟩
  rw [List.length_append, bys_length]
  have := h.len
  have := h3.bd
  have := b.1
  have := c.1
  have := d.1
  omega

set_option maxRecDepth 20000 in
set_option maxHeartbeats 6400000 in
theorem container_from (a : Option Addr) (n cap s : Nat) (f : Nat → Int) (obj rec : Bool) (w : World) (hn : n ≤ 1048576) (hcap : n ≤ cap) (hsn : s < n) (hs : SeesB w a n f) (hob : f s = if obj then 123 else 91)
    (hval : ∀ i w1, s < i → i ≤ n → SeesB w1 a n f → Calls Try.prog 25 #[.slice a n cap, .int .i64 i] w1 (Ans25 f n i w1)) :
    Calls Try.prog 17 #[.slice a n cap, .int .i64 s, .bool rec] w (Ans17 f n s obj rec w) := by
  have HS := hide hs
  have HV := hide hval
  have HOB := hide hob
  clear hs hval hob
  obtain ⟨b, off, ha, hbl, hc⟩ := HS.out s hsn
  have HBL := hide hbl
  clear hbl
  subst ha
  obtain ⟨i5, hi5, hz5, hsz5, hby5⟩ := info_parts info5
  go_enter Try.func17, Try.ntmps17
  go_upto_region 1 with fail
  go_cut [9] (fun t9 wc => wc = w ∧ t9 = .bool obj)
  case first =>
    have h1 : (f s == 123) = obj := by rw [HOB.out]; cases obj <;> simp
    go_wp2
    go_meet
    case rel => exact ⟨rfl, rfl⟩
  case rest =>
    obtain ⟨hw, ht⟩ := hcut
    subst hw ht
    clear hc
    go_upto_if 20 with fail
    go_cut [10] (fun t10 wd => wd = wc ∧ t10 = .int .u8 (closer obj))
    case first =>
      cases obj
      · go_wp2
        go_meet
        case rel => exact ⟨rfl, rfl⟩
      · go_wp2
        go_meet
        case rel => exact ⟨rfl, rfl⟩
    case rest =>
      obtain ⟨hw, ht⟩ := hcut
      subst hw ht
      go_wp2_with fail
      refine (zzWS_any _ n cap (s + 1) f _ hn (by omega) HS.out).mono ?_
      rintro e w' ⟨rfl, hw'⟩
      subst hw'
      obtain ⟨k0, hk0⟩ : ∃ k0, k0 = ws f n (s + 1) := ⟨_, rfl⟩
      have hle : k0 ≤ n := by rw [hk0]; exact ws_le (by omega)
      have hge : s < k0 := by have := ws_ge (f := f) (n := n) (i := s + 1) (by omega); omega
      rw [← hk0]
      have HK0 := hide hk0
      clear hk0
      go_upto_region 8 with fail
      go_cut [36] (fun t we => we = w' ∧ ((t = .bool true ∧ k0 < n ∧ f k0 = closer obj) ∨ t = .bool false))
      case first =>
        by_cases h1 : k0 < n
        · obtain ⟨b', off', ha', _, hc⟩ := HS.out k0 h1
          obtain ⟨rfl, rfl⟩ : b = b' ∧ off = off' := by cases ha'; exact ⟨rfl, rfl⟩
          clear ha'
          by_cases h2 : f k0 = closer obj
          · have g : (f k0 == closer obj) = true := by simp [h2]
            have H2 := hide h2
            clear h2
            go_wp2
            go_meet
            case rel => exact ⟨rfl, .inl ⟨rfl, h1, H2.out⟩⟩
          · have g : (f k0 == closer obj) = false := by simp [h2]
            clear h2
            go_wp2
            go_meet
            case rel => exact ⟨rfl, .inr rfl⟩
        · go_wp2
          go_meet
          case rel => exact ⟨rfl, .inr rfl⟩
      case rest =>
        obtain ⟨hw, hB⟩ := hcut
        subst hw
        have HB := hide hB
        clear hB
        rename World => w0
        rcases HB.out with ⟨rfl, h1, h2⟩ | rfl
        · have H2 := hide h2
          clear h2 HB
          go_wp2
          go_ret3
          refine .inr ⟨k0 + 1, [], .slice none 0 0, by go_num, BodyOK.start rec w0, ?_, .inl ⟨rfl, by rw [← HK0.out]; exact h1, by rw [← HK0.out]; exact H2.out⟩, Nat.zero_le _, Nat.zero_le _⟩
          have e : k0 + 1 - 1 = k0 := by omega
          refine ⟨by rw [HOB.out]; cases obj <;> simp, by omega, by omega, ?_, ?_⟩
          · rw [e, H2.out]; exact closer_obj obj
          · rw [e, HK0.out]; exact Goes.ws (by omega)
        · clear HB
          go_wp2
          go_loopw [1, 11, 12] (fun t1 t11 t12 wr => ∃ (k : Nat) (its : List It), t1 = .int .i64 k ∧ t11 = .int .i64 its.length ∧ CInv f n s obj rec w0 wr its t12 k) (fun t _ _ _ => n - (intOf t).toNat)
          case atStart => exact ⟨k0, [], rfl, rfl, hle, hge, by rw [HK0.out]; exact Goes.ws (by omega), HK0.out.symm, BodyOK.start rec w0, Nat.zero_le _, Nat.zero_le _⟩
          case round =>
            obtain ⟨k, its, rfl, rfl, hI⟩ := hrel
            have HI := hide hI
            have HSR := hide (HS.out.below hI.body.bel)
            have hkn := hI.le
            have hsk := hI.gt
            clear hI
            go_upto_if 40 with fail
            go_cut [1, 12, 13] (fun t1 t12 _ wd => ∃ ke vs : Nat, t1 = .int .i64 vs ∧ CMid f n s obj rec w0 wd its t12 k ke vs)
            case first =>
              cases obj
              · go_wp2
                go_meet
                case rel => exact ⟨k, k, rfl, HI.out.mid_arr⟩
              · by_cases h1 : k < n
                case neg =>
                  go_wp2
                  go_ret3
                  exact .no HI.out.body
                obtain ⟨b', off', ha', _, hc⟩ := HSR.out k h1
                obtain ⟨rfl, rfl⟩ : b = b' ∧ off = off' := by cases ha'; exact ⟨rfl, rfl⟩
                clear ha'
                by_cases h2 : f k = 34
                case neg =>
                  have g : (f k != 34) = true := by simp [h2]
                  clear h2
                  go_wp2
                  go_ret3
                  exact .no HI.out.body
                have g : (f k != 34) = false := by simp [h2]
                have H2 := hide h2
                clear h2
                go_wp2_with fail
                refine (zzString_any _ n cap k f _ hn h1 HSR.out).mono ?_
                rintro e w1 ⟨he, hw1⟩
                subst hw1
                rcases he with rfl | ⟨ke, rfl, hke⟩
                · go_wp2
                  go_ret3
                  exact .no HI.out.body
                have hk1 := hke.bd.1
                have hk2 := hke.bd.2
                have HKE := hide hke
                clear hke hc
                go_upto_if 57 with fail
                go_cut [12] (fun t12 wd => BodyOK rec w0 wd t12 (itsB f its ++ bys f k ke))
                case first =>
                  cases rec
                  · go_wp2
                    go_meet
                    case rel => exact HI.out.body.same
                  · have hkc : ke ≤ cap := by omega
                    go_wp2_with (at_builtin; refine wpList_append_own_at _ rfl _ _ 22 rfl w0.heap.size 5 i5 _ 1 1 Try.underlying22 hi5 hz5 hsz5 hby5 rfl (by omega) _ (itsB f its).length ((itsB f its).map (Value.int .u8)) rfl (HI.out.body.yes rfl) ⟨b, off + k, none⟩ (ke - k) _ ((bys f k ke).map (Value.int .u8)) rfl ?h0 (HSR.out.cells rfl k ke hk2) (bys_one f k ke) ?h1 ?h2 ?h3 ?_)
                    case h0 => rw [List.length_map, bys_length]; omega
                    case h1 => have := HI.out.len; unfold maxLen; omega
                    case h2 => have := HI.out.len; omega
                    case h3 => exact HI.out.body.bel.size
                    intro v' w' hown hg _ _
                    have HN := hide (HI.out.body.app (by rw [bys_length]) hown hg)
                    clear hown hg
                    go_wp2
                    go_meet
                    case rel => exact HN.out
                case rest =>
                  have HB2 := hide hcut
                  have HSR2 := hide (HS.out.below hcut.bel)
                  clear hcut
                  go_wp2_with fail
                  refine (zzWS_any _ n cap ke f _ hn hk2 HSR2.out).mono ?_
                  rintro e w1 ⟨rfl, hw1⟩
                  subst hw1
                  obtain ⟨k1, hk1'⟩ : ∃ k1, k1 = ws f n ke := ⟨_, rfl⟩
                  have hle1 : k1 ≤ n := by rw [hk1']; exact ws_le hk2
                  rw [← hk1']
                  have HK1 := hide hk1'
                  clear hk1'
                  by_cases h3 : k1 < n
                  case neg =>
                    go_wp2
                    go_ret3
                    exact .no HB2.out
                  obtain ⟨b', off', ha', _, hc⟩ := HSR2.out k1 h3
                  obtain ⟨rfl, rfl⟩ : b = b' ∧ off = off' := by cases ha'; exact ⟨rfl, rfl⟩
                  clear ha'
                  by_cases h4 : f k1 = 58
                  case neg =>
                    have g : (f k1 != 58) = true := by simp [h4]
                    clear h4
                    go_wp2
                    go_ret3
                    exact .no HB2.out
                  have g : (f k1 != 58) = false := by simp [h4]
                  have H4 := hide h4
                  clear h4
                  go_wp2_with fail
                  refine (zzWS_any _ n cap (k1 + 1) f _ hn (by omega) HSR2.out).mono ?_
                  rintro e w2 ⟨rfl, hw2⟩
                  subst hw2
                  go_wp2
                  go_meet
                  case rel => exact ⟨ke, _, by rw [HK1.out], HI.out.mid_obj h1 H2.out HKE.out (by rw [← HK1.out]; exact h3) (by rw [← HK1.out]; exact H4.out) HB2.out⟩
            case rest =>
              obtain ⟨ke, vs, rfl, hM⟩ := hcut
              have HM := hide hM
              have HSM := hide (HS.out.below hM.body.bel)
              have hvn := hM.le
              have hkv := hM.ge
              clear hM
              go_wp2_with fail
              refine (HV.out vs _ (by omega) hvn HSM.out).mono ?_
              rintro e w1 ⟨he, hd⟩
              have HBD := hide (HM.out.body.drawn hd)
              have HS1 := hide (HSM.out.drawn hd)
              clear hd
              rcases he with rfl | ⟨ve, rfl, hve⟩
              · go_wp2
                go_ret3
                exact .no HBD.out
              have hv1 := hve.1
              have hv2 := hve.2.1
              have HVE := hide hve
              clear hve
              go_upto_if 87 with fail
              go_cut [12] (fun t12 wd => BodyOK rec w0 wd t12 ((itsB f its ++ bys f k ke) ++ bys f vs ve))
              case first =>
                cases rec
                · go_wp2
                  go_meet
                  case rel => exact HBD.out.same
                · have hkc : ve ≤ cap := by omega
                  obtain ⟨xs, hxs⟩ : ∃ xs, xs = itsB f its ++ bys f k ke := ⟨_, rfl⟩
                  have hbx := HBD.out
                  rw [← hxs] at hbx
                  have HBX := hide hbx
                  have hlen := HM.out.len
                  rw [← hxs] at hlen
                  have HXS := hide hxs
                  clear hbx hxs
                  go_wp2_with (at_builtin; refine wpList_append_own_at _ rfl _ _ 22 rfl w0.heap.size 5 i5 _ 1 1 Try.underlying22 hi5 hz5 hsz5 hby5 rfl (by omega) _ xs.length (xs.map (Value.int .u8)) rfl (HBX.out.yes rfl) ⟨b, off + vs, none⟩ (ve - vs) _ ((bys f vs ve).map (Value.int .u8)) rfl ?h0 (HS1.out.cells rfl vs ve hv2) (bys_one f vs ve) ?h1 ?h2 ?h3 ?_)
                  case h0 => rw [List.length_map, bys_length]; omega
                  case h1 => unfold maxLen; omega
                  case h2 => omega
                  case h3 => exact HBX.out.bel.size
                  intro v' w' hown hg _ _
                  have HN := hide (BodyOK.app (ys := bys f vs ve) HBX.out (by rw [bys_length]) hown hg)
                  clear hown hg
                  go_wp2
                  go_meet
                  case rel => have := HN.out; rw [HXS.out] at this; exact this
              case rest =>
                have HBZ := hide hcut
                have HSZ := hide (HS.out.below hcut.bel)
                clear hcut
                rename World => w3
                have hcnt := HI.out.cnt
                go_wp2_with fail
                refine (zzWS_any _ n cap ve f _ hn hv2 HSZ.out).mono ?_
                rintro e w4 ⟨rfl, hw4⟩
                subst hw4
                obtain ⟨k2, hk2'⟩ : ∃ k2, k2 = ws f n ve := ⟨_, rfl⟩
                have hle2 : k2 ≤ n := by rw [hk2']; exact ws_le hv2
                have hge2 : ve ≤ k2 := by rw [hk2']; exact ws_ge hv2
                rw [← hk2']
                have HK2 := hide hk2'
                clear hk2'
                by_cases h3 : k2 < n
                case neg =>
                  go_wp2
                  go_ret3
                  exact .no HBZ.out
                obtain ⟨b', off', ha', _, hc⟩ := HSZ.out k2 h3
                obtain ⟨rfl, rfl⟩ : b = b' ∧ off = off' := by cases ha'; exact ⟨rfl, rfl⟩
                clear ha'
                have HIT : Hid (ItemOK f n obj ⟨k, ke, vs, ve⟩ k) := ⟨rfl, by omega, fun e => (HM.out.key e).2, HM.out.arr, HVE.out, by show ws f n ve < n; rw [← HK2.out]; exact h3⟩
                have HBI := hide HBZ.out.item
                have HLEN : Hid ((itsB f (its ++ [⟨k, ke, vs, ve⟩])).length ≤ ve) := by
                  rw [itsB_snoc, itB, ← List.append_assoc, List.length_append, bys_length]
                  have := HM.out.len
                  show (itsB f its ++ bys f k ke).length + (ve - vs) ≤ ve
                  omega
                have HG : Hid (Goes f n (s + 1) k2) := by
                  rw [HK2.out]
                  exact HI.out.goes.trans HIT.out.goes
                by_cases h4 : f k2 = closer obj
                case pos =>
                  have g : (f k2 == closer obj) = true := by simp [h4]
                  have H4 := hide h4
                  clear h4
                  go_wp2
                  go_ret3
                  refine .inr ⟨k2 + 1, its ++ [⟨k, ke, vs, ve⟩], _, ?_, HBI.out, ?_, .inr ⟨its, _, k, rfl, HI.out.done, HIT.out, by show f (ws f n ve) = _; rw [← HK2.out]; exact H4.out⟩, ?_, ?_⟩
                  · simp
                  · have e : k2 + 1 - 1 = k2 := by omega
                    refine ⟨by rw [HOB.out]; cases obj <;> simp, by omega, by omega, ?_, ?_⟩
                    · rw [e, H4.out]; exact closer_obj obj
                    · rw [e]; exact HG.out
                  · rw [List.length_append]; show its.length + 1 ≤ n; omega
                  · have := HLEN.out; omega
                have g : (f k2 == closer obj) = false := by simp [h4]
                clear h4
                by_cases h5 : f k2 = 44
                case neg =>
                  have g2 : (f k2 != 44) = true := by simp [h5]
                  clear h5
                  go_wp2
                  go_ret3
                  exact .no HBZ.out
                have g2 : (f k2 != 44) = false := by simp [h5]
                have H5 := hide h5
                clear h5
                go_wp2_with fail
                refine (zzWS_any _ n cap (k2 + 1) f _ hn (by omega) HSZ.out).mono ?_
                rintro e w5 ⟨rfl, hw5⟩
                subst hw5
                have HGE : Hid (k2 + 1 ≤ ws f n (k2 + 1)) := ws_ge (by omega)
                go_wp2
                go_roundw
                case rel =>
                  refine ⟨ws f n (k2 + 1), its ++ [⟨k, ke, vs, ve⟩], rfl, by simp, ws_le (by omega), by have := HGE.out; omega, (HG.out.trans (Goes.oth h3 (by rw [H5.out]; omega))).trans (Goes.ws (by omega)), ?_, HBI.out, by have := HLEN.out; have := HGE.out; omega, ?_⟩
                  · have := Done.snoc HIT.out (by show f (ws f n ve) = 44; rw [← HK2.out]; exact H5.out) its _ HI.out.done
                    have e : ws f n (⟨k, ke, vs, ve⟩ : It).ve = k2 := HK2.out.symm
                    rw [e] at this
                    exact this
                  · have := HGE.out; rw [List.length_append]; show its.length + 1 ≤ _; omega
                case measure => have := HGE.out; have := ws_le (f := f) (n := n) (i := k2 + 1) (by omega); simp [intOf]; omega
end Go.Proofs.Qxb6616170a
