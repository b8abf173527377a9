import Derived.Test.Qxb6614952aBegC
namespace Go.Proofs.Qxb6614952a
open Go.RowKit

set_option maxHeartbeats 800000 in
theorem beginsLaw_any (m gf wm nm : Int) (al ga wa na : ByteArray) (a : Option Addr) (len cap : Nat) (ss : List ByteArray) (w : World)
    (hal : al.size ≤ maxLen) (hga : ga.size ≤ maxLen) (hwa : wa.size ≤ maxLen) (hna : na.size ≤ maxLen) (hr : IsStrs w a len ss) :
    Calls Try.prog 6 #[.int .u64 m, .string al, .int .u64 gf, .string ga, .slice a len cap, .string wa, .int .u64 wm, .string na, .int .u64 nm] w fun e w' => e = .returned (.bool true) ∧ Below w.heap.size w w' := by
  have HR : Hid (IsStrs w a len ss) := hr
  clear hr
  go_enter Try.func6, Try.ntmps6
  go_wp2_with fail
  refine (zzBytesBegins_any m gf wm nm al ga wa na a len cap ss _ hal hga hwa hna HR.out).mono ?_
  rintro e w' ⟨⟨b1, rfl⟩, hw⟩
  subst hw
  cases b1
  · go_wp2
    go_ret
    exact ⟨rfl, Below.refl _ _⟩
  go_wp2_with fail
  refine (beginsFit_any al ga wa na a len cap ss _ hal hga hwa hna HR.out).mono ?_
  rintro e w' ⟨⟨b2, rfl⟩, hw⟩
  subst hw
  cases b2
  · go_wp2
    go_ret
    exact ⟨rfl, Below.refl _ _⟩
  go_wp2_with fail
  refine (begins_any m gf wm nm al ga wa na (.slice a len cap) _).mono ?_
  rintro e w1 ⟨rfl, hb1⟩
  obtain ⟨hc1, hf1⟩ := bcell hb1
  have HB1 := hide hb1
  clear hb1 hf1
  go_wp2_with fail
  refine (begins_any m gf wm wm al ga wa wa (.slice a len cap) _).mono ?_
  rintro e w2 ⟨rfl, hb2⟩
  have hBB : Hid (Below w'.heap.size w' w2) := by
    refine Below.trans ?_ (hb2.mono ?_)
    · exact ((((Below.refl _ _).alloc (Nat.le_refl _) _).alloc (by simp) _).alloc (by simp; omega) _).trans (HB1.out.mono (by simp; omega))
    · have := HB1.out.size; simp at this; omega
  clear hb2 hc1 HB1
  have e2 : againB al wa wa wm wm = !(al.toList == wa.toList) := by simp [againB]
  rw [e2]
  have e1 : againB al wa na wm nm = (!(al.toList == wa.toList) && (na.toList == wa.toList && nm == wm)) := rfl
  rw [e1]
  clear e1 e2
  generalize (al.toList == wa.toList) = B
  by_cases c1 : na.toList = wa.toList
  · have c1' : (na.toList == wa.toList) = true := by simpa using c1
    rw [c1']
    by_cases c2 : nm = wm
    · have c2' : (nm == wm) = true := by simpa using c2
      rw [c2']
      clear c1 c2
      cases B
      all_goals
        go_wp2
        go_ret
        exact ⟨rfl, hBB.out⟩
    · have c2' : (nm == wm) = false := by simpa using c2
      rw [c2']
      clear c1 c2
      cases B
      all_goals
        go_wp2
        go_ret
        exact ⟨rfl, hBB.out⟩
  · have c1' : (na.toList == wa.toList) = false := by simpa using c1
    rw [c1']
    clear c1
    cases B
    all_goals
      go_wp2
      go_ret
      exact ⟨rfl, hBB.out⟩
end Go.Proofs.Qxb6614952a
