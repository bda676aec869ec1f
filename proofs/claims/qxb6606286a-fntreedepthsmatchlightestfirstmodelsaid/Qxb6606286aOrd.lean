/- THE TWO QUEUES, WHERE THE LEAVES' WEIGHTS NEVER FALL: each pick is the lightest that lives; how deep the tree can be. No Go in sight. -/
import Derived.Test.Qxb6606286aHuff
namespace Go.Proofs.Qxb6606286a.Huff

def used (n : Nat) (leaf joined x : Nat) : Prop := x < leaf ∨ (n ≤ x ∧ x < joined)
def live (n made : Nat) (leaf joined y : Nat) : Prop := (leaf ≤ y ∧ y < n) ∨ (joined ≤ y ∧ y < made)

/-- z: how many of the leaves weigh nothing. -/
structure Ord (n k z : Nat) (s : St) : Prop where
  ls : ∀ i j, i ≤ j → j < n → s.wt i ≤ s.wt j
  js : ∀ i j, n ≤ i → i ≤ j → j < n + k → s.wt i ≤ s.wt j
  ord : ∀ x y, used n s.leaf s.joined x → live n (n + k) s.leaf s.joined y → s.wt x ≤ s.wt y
  last : 0 < k → ∃ a b, used n s.leaf s.joined a ∧ used n s.leaf s.joined b ∧ s.wt (n + k - 1) = s.wt a + s.wt b
  zl : ∀ i, i < n → (s.wt i = 0 ↔ i < z)
  fa : ∀ x, used n s.leaf s.joined x → s.wt x ≤ s.wt (s.par x)
  fb : ∀ x, used n s.leaf s.joined x → used n s.leaf s.joined (s.par x) → s.wt x + s.wt (s.par x) ≤ s.wt (s.par (s.par x))
  zz : ∀ x, n ≤ x → x < s.joined → s.wt x = 0 → z + x + n ≤ 2 * s.par x + 1
  zc : ∀ m, n ≤ m → m < n + k → s.wt m = 0 → m + 2 ≤ z + n

/-- What a pick gives where both queues are sorted. -/
structure Least (n made leaf joined x leaf' joined' z : Nat) (wt : Nat → Nat) : Prop where
  liv : live n made leaf joined x
  min : ∀ y, live n made leaf joined y → wt x ≤ wt y
  used' : ∀ y, used n leaf' joined' y ↔ used n leaf joined y ∨ y = x
  live' : ∀ y, live n made leaf' joined' y ↔ live n made leaf joined y ∧ y ≠ x
  zer : n ≤ x → wt x = 0 → z ≤ leaf
  earl : ∀ y, live n made leaf joined y → wt y = wt x → x ≤ y

theorem least {n made leaf joined z : Nat} {wt : Nat → Nat} (h1 : leaf ≤ n) (h2 : n ≤ joined) (h3 : joined ≤ made) (h4 : leaf < n ∨ joined < made) (hz : z ≤ n)
    (ls : ∀ i j, i ≤ j → j < n → wt i ≤ wt j) (js : ∀ i j, n ≤ i → i ≤ j → j < made → wt i ≤ wt j) (zl : ∀ i, i < n → (wt i = 0 ↔ i < z)) :
    Least n made leaf joined (pX n made leaf joined wt) (pL n made leaf joined wt) (pJ n made leaf joined wt) z wt := by
  rcases way (wt := wt) h1 h3 h4 with ⟨e1, e2, e3, e4, e5⟩ | ⟨e1, e2, e3, e4, e5⟩
  · rw [e1, e3, e4]
    refine ⟨.inl ⟨by omega, e2⟩, fun y hy => ?_, fun y => by unfold used; omega, fun y => by unfold live; omega, fun h => by omega, fun y hy _ => by unfold live at hy; omega⟩
    rcases hy with ⟨a, b⟩ | ⟨a, b⟩
    · exact ls _ _ a b
    · rcases e5 with e5 | e5
      · omega
      · exact Nat.le_trans e5 (js _ _ h2 a b)
  · rw [e1, e3, e4]
    refine ⟨.inr ⟨by omega, e2⟩, fun y hy => ?_, fun y => by unfold used; omega, fun y => by unfold live; omega, fun h h0 => ?_, fun y hy hw => ?_⟩
    · rcases hy with ⟨a, b⟩ | ⟨a, b⟩
      · rcases e5 with e5 | e5
        · omega
        · have := ls _ _ a b; omega
      · exact js _ _ h2 a b
    · rcases e5 with e5 | e5
      · omega
      · by_cases hl : leaf < n
        · have := zl leaf hl; omega
        · omega
    · rcases hy with ⟨a, b⟩ | ⟨a, b⟩
      · rcases e5 with e5 | e5
        · omega
        · have := ls _ _ a b; omega
      · exact a

theorem two_least {n k T z : Nat} {W0 : Nat → Nat} {s : St} (h : Inv n k T W0 s) (o : Ord n k z s) (hz : z ≤ n) (hk : k + 1 < n) :
    Least n (n + k) s.leaf s.joined (aOf n (n + k) s) (l1 n (n + k) s) (j1 n (n + k) s) z s.wt ∧
    Least n (n + k) (l1 n (n + k) s) (j1 n (n + k) s) (bOf n (n + k) s) (l2 n (n + k) s) (j2 n (n + k) s) z s.wt := by
  obtain ⟨p, q⟩ := two_picks h hk
  refine ⟨least h.h1 h.h2 h.h3 (by have := h.h4; have := h.h1; have := h.h3; omega) hz o.ls o.js o.zl, ?_⟩
  exact least p.a1 p.a2 p.a3 (by have := p.a4; have := h.h4; omega) hz o.ls o.js o.zl

theorem ord_step {n k T z : Nat} {W0 : Nat → Nat} {s : St} (h : Inv n k T W0 s) (o : Ord n k z s) (hz : z ≤ n) (hk : k + 1 < n) : Ord n (k + 1) z (step n (n + k) s) := by
  obtain ⟨p, q⟩ := two_picks h hk
  obtain ⟨la, lb⟩ := two_least h o hz hk
  have hab := a_ne_b h hk
  have pr := h.pr
  have h4 := h.h4
  have h1 := h.h1
  have h2 := h.h2
  have h3 := h.h3
  obtain ⟨ls, js, ord, last, zl, fa, fb, zz, zc⟩ := o
  unfold step
  generalize hA : aOf n (n + k) s = a at *
  generalize hB : bOf n (n + k) s = b at *
  generalize hL1 : l1 n (n + k) s = L1 at *
  generalize hJ1 : j1 n (n + k) s = J1 at *
  generalize hL2 : l2 n (n + k) s = L2 at *
  generalize hJ2 : j2 n (n + k) s = J2 at *
  have p1 := p.a1; have p2 := p.a2; have p3 := p.a3; have p4 := p.a4; have p5 := p.a5; have p6 := p.a6; have p7 := p.a7; have p8 := p.a8
  have q1 := q.a1; have q2 := q.a2; have q3 := q.a3; have q4 := q.a4; have q5 := q.a5; have q6 := q.a6; have q7 := q.a7; have q8 := q.a8
  -- the new used ones
  have us : ∀ x, used n L2 J2 x ↔ (used n s.leaf s.joined x ∨ x = a) ∨ x = b := fun x => by rw [lb.used' x, la.used' x]
  have lv : ∀ y, live n (n + k) L2 J2 y ↔ (live n (n + k) s.leaf s.joined y ∧ y ≠ a) ∧ y ≠ b := fun y => by rw [lb.live' y, la.live' y]
  have bl : live n (n + k) s.leaf s.joined b := ((la.live' b).1 lb.liv).1
  have wab : s.wt a ≤ s.wt b := la.min b bl
  -- all that is used weighs at most b
  have usb : ∀ x, used n L2 J2 x → s.wt x ≤ s.wt b := fun x hx => by
    rcases (us x).1 hx with (hx | rfl) | rfl
    · exact ord x b hx bl
    · exact wab
    · exact Nat.le_refl _
  have usa : ∀ x, used n s.leaf s.joined x → s.wt x ≤ s.wt a := fun x hx => ord x a hx la.liv
  have ul : ∀ x, used n L2 J2 x → x < n + k := fun x hx => by unfold used at hx; omega
  have wt' : ∀ x, x ≠ n + k → upd s.wt (n + k) (s.wt a + s.wt b) x = s.wt x := fun x hx => upd_other _ _ _ _ hx
  have wtm : upd s.wt (n + k) (s.wt a + s.wt b) (n + k) = s.wt a + s.wt b := upd_same _ _ _
  have hpar : ∀ x, (x = a ∨ x = b) → upd (upd s.par a (n + k)) b (n + k) x = n + k := by
    intro x hx
    by_cases e : x = b
    · subst e; exact upd_same _ _ _
    · rw [upd_other _ _ _ _ e]
      rcases hx with rfl | rfl
      · exact upd_same _ _ _
      · exact absurd rfl e
  have hold : ∀ x, x ≠ a → x ≠ b → upd (upd s.par a (n + k)) b (n + k) x = s.par x := fun x e1 e2 => by rw [upd_other _ _ _ _ e2, upd_other _ _ _ _ e1]
  have una : ¬ used n s.leaf s.joined a := by unfold used; have := la.liv; unfold live at this; omega
  have unb : ¬ used n s.leaf s.joined b := by unfold used; unfold live at bl; omega
  have hou : ∀ x, used n s.leaf s.joined x → upd (upd s.par a (n + k)) b (n + k) x = s.par x := fun x hx => hold x (fun e => una (e ▸ hx)) (fun e => unb (e ▸ hx))
  refine ⟨fun i j hij hj => ?_, fun i j hi hij hj => ?_, fun x y hx hy => ?_, fun _ => ?_, fun i hi => ?_, fun x hx => ?_, fun x hx hpx => ?_, fun x hx1 hx2 hx0 => ?_, fun m hm1 hm2 hm0 => ?_⟩
  · show upd s.wt (n + k) _ i ≤ upd s.wt (n + k) _ j
    rw [wt' i (by omega), wt' j (by omega)]; exact ls i j hij hj
  · show upd s.wt (n + k) _ i ≤ upd s.wt (n + k) _ j
    by_cases e : j = n + k
    · subst e
      rw [wtm]
      by_cases e2 : i = n + k
      · subst e2; rw [wtm]; exact Nat.le_refl _
      · rw [wt' i e2]
        obtain ⟨a', b', ha', hb', hw⟩ := last (by omega)
        have hi' := js i (n + k - 1) hi (by omega) (by omega)
        have hy1 := usa a' ha'
        have hy2 := ord b' b hb' bl
        omega
    · rw [wt' j e, wt' i (by omega)]; exact js i j hi hij (by omega)
  · change used n L2 J2 x at hx
    change live n (n + (k + 1)) L2 J2 y at hy
    show upd s.wt (n + k) _ x ≤ upd s.wt (n + k) _ y
    rw [wt' x (by have := ul x hx; omega)]
    by_cases e : y = n + k
    · subst e; rw [wtm]; have := usb x hx; omega
    · rw [wt' y e]
      have hy' : live n (n + k) L2 J2 y := by unfold live at hy ⊢; omega
      exact Nat.le_trans (usb x hx) (lb.min y ((lb.live' y).1 hy').1)
  · refine ⟨a, b, (us a).2 (.inl (.inr rfl)), (us b).2 (.inr rfl), ?_⟩
    show upd s.wt (n + k) _ (n + (k + 1) - 1) = upd s.wt (n + k) _ a + upd s.wt (n + k) _ b
    rw [show n + (k + 1) - 1 = n + k by omega, wtm, wt' a (by omega), wt' b (by omega)]
  · show upd s.wt (n + k) _ i = 0 ↔ i < z
    rw [wt' i (by omega)]; exact zl i hi
  · change used n L2 J2 x at hx
    show upd s.wt (n + k) _ x ≤ upd s.wt (n + k) _ (upd (upd s.par a (n + k)) b (n + k) x)
    rw [wt' x (by have := ul x hx; omega)]
    rcases (us x).1 hx with (hx' | hx') | hx'
    · rw [hou x hx', wt' _ (by have := pr x hx'; omega)]; exact fa x hx'
    · rw [hpar x (.inl hx'), wtm, hx']; omega
    · rw [hpar x (.inr hx'), wtm, hx']; omega
  · change used n L2 J2 x at hx
    change used n L2 J2 (upd (upd s.par a (n + k)) b (n + k) x) at hpx
    show upd s.wt (n + k) _ x + upd s.wt (n + k) _ (upd (upd s.par a (n + k)) b (n + k) x) ≤ upd s.wt (n + k) _ (upd (upd s.par a (n + k)) b (n + k) (upd (upd s.par a (n + k)) b (n + k) x))
    have hpl := ul _ hpx
    rw [wt' x (by have := ul x hx; omega), wt' _ (by omega)]
    rcases (us x).1 hx with (hx' | hx') | hx'
    · rw [hou x hx'] at hpx ⊢
      rcases (us (s.par x)).1 hpx with (hp | hp) | hp
      · rw [hou _ hp, wt' _ (by have := pr _ hp; omega)]; exact fb x hx' hp
      · rw [hpar _ (.inl hp), wtm, hp]; have := ord x b hx' bl; omega
      · rw [hpar _ (.inr hp), wtm, hp]; have := usa x hx'; omega
    · rw [hpar x (.inl hx')] at hpl; omega
    · rw [hpar x (.inr hx')] at hpl; omega
  · change x < J2 at hx2
    change upd s.wt (n + k) _ x = 0 at hx0
    show z + x + n ≤ 2 * upd (upd s.par a (n + k)) b (n + k) x + 1
    rw [wt' x (by omega)] at hx0
    rcases (us x).1 (.inr ⟨hx1, hx2⟩) with (hx' | hx') | hx'
    · rw [hou x hx']
      refine zz x hx1 ?_ hx0
      unfold used at hx'; omega
    · rw [hpar x (.inl hx')]
      have := la.zer (by omega) (by rw [← hx']; exact hx0)
      omega
    · rw [hpar x (.inr hx')]
      have := lb.zer (by omega) (by rw [← hx']; exact hx0)
      omega
  · change upd s.wt (n + k) _ m = 0 at hm0
    by_cases e : m = n + k
    · subst e
      rw [wtm] at hm0
      have hl : L2 ≤ z := by
        by_cases hl0 : L2 = 0
        · omega
        · have h0 := usb (L2 - 1) (.inl (by omega))
          have := zl (L2 - 1) (by omega)
          omega
      omega
    · rw [wt' m e] at hm0; exact zc m hm1 (by omega) hm0

theorem ord_zero {n z : Nat} {W0 : Nat → Nat} (hs : ∀ i j, i ≤ j → j < n → W0 i ≤ W0 j) (hz : ∀ i, i < n → (W0 i = 0 ↔ i < z)) : Ord n 0 z (run n W0 0) := by
  have hw : ∀ i, i < n → (run n W0 0).wt i = W0 i := fun i hi => by simp [run, hi]
  refine ⟨fun i j hij hj => by rw [hw i (by omega), hw j hj]; exact hs i j hij hj, fun i j h1 h2 h3 => by omega, fun x y hx _ => ?_, fun h => by omega, fun i hi => by rw [hw i hi]; exact hz i hi, fun x hx => ?_, fun x hx => ?_, fun x h1 h2 => ?_, fun m h1 h2 => by omega⟩
  · simp [used, run] at hx; omega
  · simp [used, run] at hx; omega
  · simp [used, run] at hx; omega
  · simp [run] at h2; omega

theorem ord_run {n z : Nat} {W0 : Nat → Nat} (hs : ∀ i j, i ≤ j → j < n → W0 i ≤ W0 j) (hz : ∀ i, i < n → (W0 i = 0 ↔ i < z)) (hzn : z ≤ n) : ∀ k, k < n → Ord n k z (run n W0 k)
  | 0, _ => ord_zero hs hz
  | k + 1, hk => ord_step (inv_run n W0 k (by omega)) (ord_run hs hz hzn k (by omega)) hzn hk

end Go.Proofs.Qxb6606286a.Huff
