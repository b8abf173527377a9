import Derived.Test.Qxb6616170aWi
import Derived.Test.Qxb6616170aWf
namespace Go.Proofs.Qxb6616170a
open Go.RowKit

set_option maxHeartbeats 800000 in
theorem count_any (b k : Nat) (key val : Value) (w : World) (hk : k ≤ 1048576) (hc : w.cell? ⟨b, 0, none⟩ = some (.int .i64 k)) (hf : w.frozen? ⟨b, 0, none⟩ = false) :
    Calls Try.prog 34 #[key, val, .pointer (some ⟨b, 0, none⟩)] w fun e w' => e = .returned .nilIface ∧ w' = w.setCell ⟨b, 0, none⟩ (.int .i64 ((k + 1 : Nat) : Int)) := by
  go_enter Try.func34, Try.ntmps34
  go_wp2
  go_ret
  exact ⟨rfl, by simp⟩

theorem closer_ne (obj : Bool) : closer obj ≠ 44 := by cases obj <;> simp [closer]
theorem ItemOK.delim {f : Nat → Int} {n : Nat} {obj : Bool} {it : It} {i : Nat} (h : ItemOK f n obj it i) (hc : f (ws f n it.ve) = 44 ∨ f (ws f n it.ve) = closer obj) : it.ve < n ∧ delim (f it.ve) := by
  have h1 := h.val.2.1
  have h2 := ws_ge (f := f) h1
  have h3 := h.aft
  refine ⟨by omega, ?_⟩
  by_cases e : ws f n it.ve = it.ve
  · rw [e] at hc
    rcases hc with hc | hc
    · exact .inl hc
    · rcases closer_obj obj with q | q
      · exact .inr (.inl (hc.trans q))
      · exact .inr (.inr (.inl (hc.trans q)))
  · exact .inr (.inr (.inr (ws_mid (f := f) h1 (Nat.le_refl _) (by omega))))
theorem ItemOK.first {f : Nat → Int} {n : Nat} {obj : Bool} {it : It} {i : Nat} (h : ItemOK f n obj it i) : f i ≠ 93 ∧ f i ≠ 125 := by
  cases obj with
  | true => have := (h.key rfl).1; omega
  | false =>
    have hv := h.val
    rw [(h.arr rfl).2] at hv
    obtain ⟨h1, _, ⟨a, _⟩ | a | a⟩ := hv
    · omega
    · have := a.1; omega
    · have := a i (Nat.le_refl _) h1
      exact ⟨this.2.2.2.1, this.2.2.2.2.2.1⟩
theorem ItemOK.bounds {f : Nat → Int} {n : Nat} {obj : Bool} {it : It} {i : Nat} (h : ItemOK f n obj it i) : i ≤ it.vs ∧ it.vs < it.ve ∧ it.ve ≤ n ∧ i ≤ it.ke ∧ it.ke ≤ it.vs := by
  have a := h.val
  cases obj with
  | true =>
    obtain ⟨_, k2, k3, _, k5⟩ := h.key rfl
    have b := k2.bd
    have c := ws_ge (f := f) b.2
    have d := ws_ge (f := f) (n := n) (i := ws f n it.ke + 1) (by omega)
    rw [← k5] at d
    exact ⟨by omega, a.1, a.2.1, by omega, by omega⟩
  | false =>
    obtain ⟨k1, k2⟩ := h.arr rfl
    exact ⟨by omega, a.1, a.2.1, by omega, by omega⟩

/-- The slice of the bytes from i to r. -/
def part (b off cap i r : Nat) : Value := .slice (some ⟨b, off + i, none⟩) (r - i) (cap - i)
def keyOf (obj : Bool) (b off cap : Nat) (it : It) : Value := if obj then part b off cap it.st it.ke else .slice none 0 0

set_option maxRecDepth 20000 in
set_option maxHeartbeats 6400000 in
theorem eachItem_any (b off n cap : Nat) (f : Nat → Int) (obj : Bool) (F : Nat) (caps : Array Value) (its : List It) (I : List It → World → Prop) (w : World) (hn : n ≤ 1048576) (hcap : n ≤ cap) (h0 : 0 < n) (hob : f 0 = if obj then 123 else 91)
    (hent : ∀ (args : Array Value) (w : World), (callFunc F args).run Try.prog w = .ok (.enter F args) w) (hwh : Whole f n obj 0 its) (hsees : ∀ l w, I l w → SeesB w (some ⟨b, off, none⟩) n f) (hI : I [] w)
    (hstep : ∀ l x k w, I l w → ItemOK f n obj x k → (∃ r, its = (l ++ [x]) ++ r) → Calls Try.prog F (#[keyOf obj b off cap x, part b off cap x.vs x.ve] ++ caps) w fun e w' => e = .returned .nilIface ∧ I (l ++ [x]) w') :
    Calls Try.prog 33 #[.slice (some ⟨b, off, none⟩) n cap, .func (.func F) #[] caps] w fun e w' => e = .returned .nilIface ∧ I its w' := by
  have HSE := hide hsees
  have HI := hide hI
  have HST := hide hstep
  have HWH := hide hwh
  have HOB := hide hob
  clear hsees hI hstep hwh hob
  have hs := HSE.out [] w HI.out
  have HS := hide hs
  obtain ⟨b', off', ha', _, hc0⟩ := hs 0 h0
  obtain ⟨rfl, rfl⟩ : b = b' ∧ off = off' := by cases ha'; exact ⟨rfl, rfl⟩
  clear ha' hs
  rw [Nat.add_zero] at hc0
  have g0 : (f 0 == 123) = obj := by rw [HOB.out]; cases obj <;> simp
  go_enter Try.func33, Try.ntmps33
  go_wp2_with fail
  refine (skip_any _ n cap 1 f _ hn (by omega) HS.out).mono ?_
  rintro e w1 ⟨rfl, hw1⟩
  subst hw1
  clear hc0 g0
  obtain ⟨k0, hk0⟩ : ∃ k0, k0 = ws f n 1 := ⟨_, rfl⟩
  rw [← hk0]
  have HK0 := hide hk0
  clear hk0
  rcases HWH.out with ⟨hnil, h1, h2⟩ | ⟨l, it, j, hits, hdone, hit, hcl⟩
  · rw [Nat.zero_add, ← HK0.out] at h1 h2
    obtain ⟨b', off', ha', _, hc⟩ := HS.out k0 h1
    obtain ⟨rfl, rfl⟩ : b = b' ∧ off = off' := by cases ha'; exact ⟨rfl, rfl⟩
    clear ha'
    have HNIL := hide hnil
    clear hnil
    rcases closer_obj obj with q | q
    · have q1 : (f k0 == 125) = false := by rw [h2, q]; simp
      have q2 : (f k0 == 93) = true := by rw [h2, q]; simp
      clear h2 q
      go_wp2
      go_ret
      exact ⟨rfl, by rw [HNIL.out]; exact HI.out⟩
    · have q1 : (f k0 == 125) = true := by rw [h2, q]; simp
      clear h2 q
      go_wp2
      go_ret
      exact ⟨rfl, by rw [HNIL.out]; exact HI.out⟩
  · rw [Nat.zero_add, ← HK0.out] at hdone
    have HITS := hide hits
    have HIT := hide hit
    have HCL := hide hcl
    have hfst : k0 < n ∧ f k0 ≠ 93 ∧ f k0 ≠ 125 := by
      cases l with
      | nil => obtain rfl : k0 = j := hdone; exact ⟨hit.lt, hit.first⟩
      | cons x l => exact ⟨hdone.1.lt, hdone.1.first⟩
    have HDO := hide hdone
    clear hits hit hcl hdone
    obtain ⟨h1, h2, h3⟩ := hfst
    obtain ⟨b', off', ha', _, hc⟩ := HS.out k0 h1
    obtain ⟨rfl, rfl⟩ : b = b' ∧ off = off' := by cases ha'; exact ⟨rfl, rfl⟩
    clear ha'
    have q1 : (f k0 == 125) = false := by simp [h3]
    have q2 : (f k0 == 93) = false := by simp [h2]
    clear h2 h3
    go_wp2
    clear hc q1 q2
    rename World => w0
    go_loopw [6] (fun t wr => ∃ (k : Nat) (l1 l2 : List It), t = .int .i64 k ∧ its = l1 ++ (l2 ++ [it]) ∧ Done f n obj l2 k j ∧ I l1 wr) (fun t _ => n - (intOf t).toNat)
    case atStart => exact ⟨k0, [], l, rfl, HITS.out, HDO.out, HI.out⟩
    case round =>
      obtain ⟨k, l1, l2, rfl, hsp, hdo, hIr⟩ := hrel
      have HSP := hide hsp
      have HIR := hide hIr
      have HSR := hide (HSE.out l1 _ hIr)
      -- the item that begins here
      obtain ⟨x, hx, hcx, hr⟩ : ∃ x, ItemOK f n obj x k ∧ (f (ws f n x.ve) = 44 ∨ f (ws f n x.ve) = closer obj) ∧ ((f (ws f n x.ve) = closer obj ∧ its = l1 ++ [x]) ∨ (f (ws f n x.ve) = 44 ∧ ∃ l3, its = (l1 ++ [x]) ++ (l3 ++ [it]) ∧ Done f n obj l3 (ws f n (ws f n x.ve + 1)) j)) := by
        cases l2 with
        | nil =>
          obtain rfl : k = j := hdo
          exact ⟨it, HIT.out, .inr HCL.out, .inl ⟨HCL.out, by simpa using hsp⟩⟩
        | cons x l3 =>
          obtain ⟨d1, d2, d3⟩ := hdo
          exact ⟨x, d1, .inl d2, .inr ⟨d2, l3, by simpa using hsp, d3⟩⟩
      obtain ⟨hb1, hb2, hb3, hb4, hb5⟩ := hx.bounds
      obtain ⟨hd1, hd2⟩ := hx.delim hcx
      have hxs := hx.st
      have hkn := hx.lt
      obtain ⟨st, ke, vs, ve⟩ := x
      simp only at hb1 hb2 hb3 hb4 hb5 hd1 hd2 hxs hcx hr
      subst hxs
      have HX := hide hx
      have HCX := hide hcx
      have HR := hide hr
      have HD2 := hide hd2
      clear hsp hIr hdo hx hcx hr hd2
      go_upto_if 29 with fail
      go_cut [6, 7, 8] (fun t6 t7 _ wd => wd = wr ∧ t6 = .int .i64 vs ∧ t7 = keyOf obj b off cap ⟨st, ke, vs, ve⟩)
      case first =>
        cases obj
        · obtain ⟨e1, e2⟩ := HX.out.arr rfl
          simp only at e1 e2
          subst e1 e2
          go_wp2
          go_meet
          case rel => exact ⟨rfl, rfl, rfl⟩
        · obtain ⟨e1, e2, e3, e4, e5⟩ := HX.out.key rfl
          simp only at e1 e2 e3 e4 e5
          have E2 := hide e2
          have E5 := hide e5
          have hke : ke ≤ cap := by omega
          have hken : ke ≤ n := by omega
          clear e1 e2 e4 e5
          go_wp2_with fail
          refine (stringEnd_any _ n cap st ke f _ hn E2.out HSR.out).mono ?_
          rintro e w1 ⟨rfl, hw1⟩
          subst hw1
          go_wp2_with fail
          refine (skip_any _ n cap ke f _ hn hken HSR.out).mono ?_
          rintro e w2 ⟨rfl, hw2⟩
          subst hw2
          go_wp2_with fail
          refine (skip_any _ n cap (ws f n ke + 1) f _ hn (by omega) HSR.out).mono ?_
          rintro e w3 ⟨rfl, hw3⟩
          subst hw3
          go_wp2
          go_meet
          case rel => exact ⟨rfl, by rw [E5.out], rfl⟩
      case rest =>
        obtain ⟨hw, rfl, rfl⟩ := hcut
        subst hw
        rename World => w1
        have hve : ve ≤ cap := by omega
        go_wp2_with fail
        refine (valueEnd_any _ n cap vs ve f _ hn HX.out.val hd1 HD2.out HSR.out).mono ?_
        rintro e w2 ⟨rfl, hw2⟩
        subst hw2
        go_wp2_with fail
        refine (HST.out l1 ⟨st, ke, vs, ve⟩ st _ HIR.out HX.out ?_).mono ?_
        · rcases HR.out with ⟨_, e⟩ | ⟨_, l3, e, _⟩
          · exact ⟨[], by rw [List.append_nil]; exact e⟩
          · exact ⟨_, e⟩
        rintro e w3 ⟨rfl, hI3⟩
        have HI3 := hide hI3
        have HS3 := hide (HSE.out _ _ hI3)
        clear hI3
        go_wp2_with fail
        refine (skip_any _ n cap ve f _ hn hb3 HS3.out).mono ?_
        rintro e w4 ⟨rfl, hw4⟩
        subst hw4
        obtain ⟨k2, hk2⟩ : ∃ k2, k2 = ws f n ve := ⟨_, rfl⟩
        have hlt2 : k2 < n := by rw [hk2]; exact HX.out.aft
        have hge2 : ve ≤ k2 := by rw [hk2]; exact ws_ge hb3
        rw [← hk2]
        have hr := HR.out
        rw [← hk2] at hr
        have HK2 := hide hk2
        clear hk2 HR
        obtain ⟨b', off', ha', _, hc⟩ := HS3.out k2 hlt2
        obtain ⟨rfl, rfl⟩ : b = b' ∧ off = off' := by cases ha'; exact ⟨rfl, rfl⟩
        clear ha'
        rcases hr with ⟨e1, e2⟩ | ⟨e1, l3, e2, e3⟩
        · have q : (f k2 != 44) = true := by rw [e1]; simp [closer_ne obj]
          have E2 := hide e2
          clear e1 e2
          go_wp2
          go_ret
          exact ⟨rfl, by rw [E2.out]; exact HI3.out⟩
        · have q : (f k2 != 44) = false := by rw [e1]; simp
          have E2 := hide e2
          have E3 := hide e3
          clear e1 e2 e3
          go_wp2_with fail
          refine (skip_any _ n cap (k2 + 1) f _ hn (by omega) HS3.out).mono ?_
          rintro e w5 ⟨rfl, hw5⟩
          subst hw5
          have HGE : Hid (k2 + 1 ≤ ws f n (k2 + 1)) := ws_ge (by omega)
          go_wp2
          go_roundw
          case rel => exact ⟨_, _, l3, rfl, E2.out, E3.out, HI3.out⟩
          case measure => have := HGE.out; have := ws_le (f := f) (n := n) (i := k2 + 1) (by omega); simp [intOf]; omega
end Go.Proofs.Qxb6616170a
