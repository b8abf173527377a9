import Derived.Test.Qxb6616170aWk
namespace Go.Proofs.Qxb6616170a
open Go.RowKit

theorem owns_slice {w : World} {base : Nat} {e : TypeId} {size : Nat} {v : Value} {n : Nat} {xs : List Value} (h : w.ownsRow base e size v n xs) : ∃ a l c, v = .slice a l c := by
  rcases h.2 with ⟨rfl, _⟩ | ⟨g, cap, cur, rfl, _⟩
  · exact ⟨_, _, _, rfl⟩
  · exact ⟨_, _, _, rfl⟩

set_option maxHeartbeats 1600000 in
/-- appendCounted's second closure: one item appended to the captured dst. -/
theorem put_any (base len b off cap n k bF bD : Nat) (f : Nat → Int) (obj : Bool) (st ke vs ve : Nat) (v : Value) (xs : List Value) (w : World) (hn : n ≤ 1048576) (hX : ItemOK f n obj ⟨st, ke, vs, ve⟩ k) (hlen : len ≤ 5000000) (hb : base ≤ w.heap.size)
    (ho : w.ownsRow base 5 1 v len xs) (hs : SeesB w (some ⟨b, off, none⟩) n f) (hd : v.ownBlock ≠ some b) (hdD : v.ownBlock ≠ some bD)
    (cF : w.cell? ⟨bF, 0, none⟩ = some (.func (.func 27) #[] #[])) (cD : w.cell? ⟨bD, 0, none⟩ = some v) (fD : w.frozen? ⟨bD, 0, none⟩ = false) :
    Calls Try.prog 36 #[keyOf obj b off cap ⟨st, ke, vs, ve⟩, part b off cap vs ve, .pointer (some ⟨bF, 0, none⟩), .pointer (some ⟨bD, 0, none⟩)] w fun e w' => ∃ w1 v', e = .returned .nilIface ∧ w' = w1.setCell ⟨bD, 0, none⟩ v' ∧ Grew base w w1 v v' (len + (itB f ⟨st, ke, vs, ve⟩).length) (xs ++ (itB f ⟨st, ke, vs, ve⟩).map (Value.int .u8)) := by
  have HX := hide hX
  have HO := hide ho
  have HS := hide hs
  have HD := hide hd
  have HDD := hide hdD
  have HCD := hide cD
  have HFD := hide fD
  clear hX ho hs hd hdD
  go_enter Try.func36, Try.ntmps36
  go_wp2_with fail
  refine (item_any base len b off cap n k f obj st ke vs ve v xs _ hn HX.out hlen hb HO.out HS.out HD.out).mono ?_
  rintro e w1 ⟨v', rfl, hG⟩
  have HG := hide hG
  have hblk : w1.heap[bD]? = w.heap[bD]? := hG.kept.block bD (World.block_lt_of_cell? w _ HCD.out) HDD.out
  have cD1 : w1.cell? ⟨bD, 0, none⟩ = some v := (World.cell?_of_block (a := ⟨bD, 0, none⟩) hblk).trans HCD.out
  have fD1 : w1.frozen? ⟨bD, 0, none⟩ = false := (World.frozen?_of_block (a := ⟨bD, 0, none⟩) hblk).trans HFD.out
  clear hG hblk cF cD fD
  obtain ⟨a', l', c', rfl⟩ := owns_slice HG.out.own
  go_wp2
  go_ret
  exact ⟨w1, _, rfl, rfl, HG.out⟩

theorem Kept.setCell (w : World) (b : Nat) (v : Value) : Kept (fun k => k = b) w (w.setCell ⟨b, 0, none⟩ v) :=
  ⟨rfl, rfl, rfl, by simp [World.setCell], fun k _ hk => Below.heap_setCell _ _ _ _ hk⟩

/-- What holds of the captured dst while the items are appended. -/
structure J (base bD : Nat) (w0 : World) (v0 : Value) (w : World) (v : Value) (len : Nat) (xs : List Value) : Prop where
  cell : w.cell? ⟨bD, 0, none⟩ = some v
  fz : w.frozen? ⟨bD, 0, none⟩ = false
  own : w.ownsRow base 5 1 v len xs
  kept : Kept (fun k => k = bD ∨ v0.ownBlock = some k) w0 w
  new : OwnNew w0 v0 v
theorem J.ne {base bD : Nat} {w0 w : World} {v0 v : Value} {len : Nat} {xs : List Value} (h : J base bD w0 v0 w v len xs) {b : Nat} (hb : b < w0.heap.size) (hv : v0.ownBlock ≠ some b) : v.ownBlock ≠ some b := by
  intro e
  rcases h.new b e with e | e
  · exact hv e
  · omega
theorem J.step {base bD : Nat} {w0 w w1 : World} {v0 v v' : Value} {len len' : Nat} {xs xs' : List Value} (h : J base bD w0 v0 w v len xs) (hb : bD < w0.heap.size) (hv : v0.ownBlock ≠ some bD) (hG : Grew base w w1 v v' len' xs') : J base bD w0 v0 (w1.setCell ⟨bD, 0, none⟩ v') v' len' xs' := by
  have hblk : w1.heap[bD]? = w.heap[bD]? := hG.kept.block bD (World.block_lt_of_cell? w _ h.cell) (h.ne hb hv)
  have c1 : w1.cell? ⟨bD, 0, none⟩ = some v := (World.cell?_of_block (a := ⟨bD, 0, none⟩) hblk).trans h.cell
  have f1 : w1.frozen? ⟨bD, 0, none⟩ = false := (World.frozen?_of_block (a := ⟨bD, 0, none⟩) hblk).trans h.fz
  have hs := h.kept.size
  refine ⟨World.cell?_setCell_same _ _ _ c1, by rw [World.frozen?_setCell]; exact f1, ?_, ?_, ?_⟩
  · refine (Kept.setCell w1 bD v').owns hG.own ?_
    intro k hk e
    subst e
    rcases hG.new k hk with e | e
    · exact h.ne hb hv e
    · omega
  · refine (h.kept.trans hG.kept ?_).trans (Kept.setCell w1 bD v') ?_
    · intro k hk e
      rcases h.new k e with e | e
      · exact .inr e
      · omega
    · exact fun k _ e => .inl e
  · intro k hk
    rcases hG.new k hk with e | e
    · exact h.new k e
    · right; omega

theorem enter_of {F : Nat} {fn : Func} {c : Code} (hf : Try.prog.funcs[F]? = some fn) (hname : (fn.name == "runtime.NumGoroutine") = false) (hb : fn.body = some c) (args : Array Value) (w : World) : (callFunc F args).run Try.prog w = .ok (.enter F args) w := by
  have h1 : fn.name ≠ "runtime.NumGoroutine" := by simpa using hname
  simp [callFunc, hf, h1, hb]
theorem enter34 (args : Array Value) (w : World) : (callFunc 34 args).run Try.prog w = .ok (.enter 34 args) w := enter_of Try.func34 (by kernel_rfl) rfl args w
theorem enter36 (args : Array Value) (w : World) : (callFunc 36 args).run Try.prog w = .ok (.enter 36 args) w := enter_of Try.func36 (by kernel_rfl) rfl args w

theorem each_count (b off n cap bN : Nat) (f : Nat → Int) (obj : Bool) (its : List It) (w : World) (hn : n ≤ 1048576) (hcap : n ≤ cap) (h0 : 0 < n) (hob : f 0 = if obj then 123 else 91) (hwh : Whole f n obj 0 its) (hil : its.length ≤ n)
    (hs : SeesB w (some ⟨b, off, none⟩) n f) (hne : b ≠ bN) (hc : w.cell? ⟨bN, 0, none⟩ = some (.int .i64 0)) (hf : w.frozen? ⟨bN, 0, none⟩ = false) :
    Calls Try.prog 33 #[.slice (some ⟨b, off, none⟩) n cap, .func (.func 34) #[] #[.pointer (some ⟨bN, 0, none⟩)]] w fun e w' => e = .returned .nilIface ∧ w'.cell? ⟨bN, 0, none⟩ = some (.int .i64 its.length) ∧ Kept (fun k => k = bN) w w' := by
  refine (eachItem_any b off n cap f obj 34 #[.pointer (some ⟨bN, 0, none⟩)] its (fun l w' => w'.cell? ⟨bN, 0, none⟩ = some (.int .i64 l.length) ∧ w'.frozen? ⟨bN, 0, none⟩ = false ∧ Kept (fun k => k = bN) w w') w hn hcap h0 hob enter34 hwh ?_ ?_ ?_).mono ?_
  · exact fun l w' h => h.2.2.sees hs hne
  · exact ⟨hc, hf, Kept.refl _ _⟩
  · rintro l x k w' ⟨h1, h2, h3⟩ hx ⟨r, hr⟩
    have hl : l.length + 1 + r.length = its.length := by rw [hr]; simp; omega
    refine (count_any bN l.length _ _ w' (by omega) h1 h2).mono ?_
    rintro e w2 ⟨rfl, rfl⟩
    refine ⟨rfl, ?_, by rw [World.frozen?_setCell]; exact h2, h3.trans (Kept.setCell w' bN _) (fun _ _ e => e)⟩
    rw [World.cell?_setCell_same _ _ _ h1, List.length_append]
    rfl
  · rintro e w' ⟨rfl, h1, _, h3⟩
    exact ⟨rfl, h1, h3⟩

theorem itsB_prefix (f : Nat → Int) (l r : List It) : (itsB f l).length ≤ (itsB f (l ++ r)).length := by simp [itsB]

theorem each_put (base len b off n cap bF bD : Nat) (f : Nat → Int) (obj : Bool) (its : List It) (v0 : Value) (xs : List Value) (w : World) (hn : n ≤ 1048576) (hcap : n ≤ cap) (h0 : 0 < n) (hob : f 0 = if obj then 123 else 91) (hwh : Whole f n obj 0 its) (hil : (itsB f its).length ≤ n)
    (hlen : len ≤ 2000000) (hb : base ≤ w.heap.size) (ho : w.ownsRow base 5 1 v0 len xs)
    (hs : SeesB w (some ⟨b, off, none⟩) n f) (hbl : b < w.heap.size) (hne : b ≠ bD) (hneF : bF ≠ bD) (hvb : v0.ownBlock ≠ some b) (hvD : v0.ownBlock ≠ some bD) (hvF : v0.ownBlock ≠ some bF)
    (cF : w.cell? ⟨bF, 0, none⟩ = some (.func (.func 27) #[] #[])) (cD : w.cell? ⟨bD, 0, none⟩ = some v0) (fD : w.frozen? ⟨bD, 0, none⟩ = false) :
    Calls Try.prog 33 #[.slice (some ⟨b, off, none⟩) n cap, .func (.func 36) #[] #[.pointer (some ⟨bF, 0, none⟩), .pointer (some ⟨bD, 0, none⟩)]] w fun e w' => e = .returned .nilIface ∧ ∃ v', J base bD w v0 w' v' (len + (itsB f its).length) (xs ++ (itsB f its).map (Value.int .u8)) := by
  have hDl : bD < w.heap.size := World.block_lt_of_cell? w _ cD
  have hFl : bF < w.heap.size := World.block_lt_of_cell? w _ cF
  refine (eachItem_any b off n cap f obj 36 #[.pointer (some ⟨bF, 0, none⟩), .pointer (some ⟨bD, 0, none⟩)] its (fun l w' => ∃ v', J base bD w v0 w' v' (len + (itsB f l).length) (xs ++ (itsB f l).map (Value.int .u8))) w hn hcap h0 hob enter36 hwh ?_ ?_ ?_).mono ?_
  · rintro l w' ⟨v', h⟩
    exact h.kept.sees hs (fun e => e.elim hne hvb)
  · refine ⟨v0, cD, fD, ?_, Kept.refl _ _, OwnNew.refl _ _⟩
    simpa [itsB] using ho
  · rintro l ⟨st, ke, vs, ve⟩ k w' ⟨v, h⟩ hx ⟨r, hr⟩
    have hle : (itsB f l).length ≤ n := by
      have := itsB_prefix f l ([⟨st, ke, vs, ve⟩] ++ r)
      rw [← List.append_assoc, ← hr] at this
      omega
    have hF' : w'.cell? ⟨bF, 0, none⟩ = some (.func (.func 27) #[] #[]) := (World.cell?_of_block (a := ⟨bF, 0, none⟩) (h.kept.block bF hFl (fun e => e.elim hneF hvF))).trans cF
    refine (put_any base _ b off cap n k bF bD f obj st ke vs ve v _ w' hn hx (by omega) (Nat.le_trans hb h.kept.size) h.own (h.kept.sees hs (fun e => e.elim hne hvb)) (h.ne hbl hvb) (h.ne hDl hvD) hF' h.cell h.fz).mono ?_
    rintro e w2 ⟨w1, v', rfl, rfl, hG⟩
    refine ⟨rfl, v', ?_⟩
    have := h.step hDl hvD hG
    rw [itsB_snoc, List.length_append, List.map_append, ← Nat.add_assoc, ← List.append_assoc]
    exact this
  · rintro e w' ⟨rfl, h⟩
    exact ⟨rfl, h⟩
end Go.Proofs.Qxb6616170a
