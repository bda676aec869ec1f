/- THE PLAIN MATHEMATICS OF THE TWO QUEUES: no Go in sight. -/
namespace Go.Proofs.Qxb6606286a

def upd {α : Type} (f : Nat → α) (j : Nat) (v : α) : Nat → α := fun i => if i = j then v else f i
theorem upd_same {α : Type} (f : Nat → α) (j : Nat) (v : α) : upd f j v j = v := by simp [upd]
theorem upd_other {α : Type} (f : Nat → α) (j i : Nat) (v : α) (h : i ≠ j) : upd f j v i = f i := by simp [upd, h]

namespace Huff

/-- f a + .. + f (a + d - 1) -/
def rs (f : Nat → Nat) (a : Nat) : Nat → Nat
  | 0 => 0
  | d + 1 => rs f a d + f (a + d)

theorem rs_congr {f g : Nat → Nat} {a : Nat} : ∀ d, (∀ i, a ≤ i → i < a + d → f i = g i) → rs f a d = rs g a d
  | 0, _ => rfl
  | d + 1, h => by
    simp only [rs]
    rw [rs_congr d (fun i h1 h2 => h i h1 (by omega)), h (a + d) (by omega) (by omega)]

theorem rs_front (f : Nat → Nat) (a : Nat) : ∀ d, rs f a (d + 1) = f a + rs f (a + 1) d
  | 0 => by simp [rs]
  | d + 1 => by
    have h := rs_front f a d
    simp only [rs] at h ⊢
    rw [show a + 1 + d = a + (d + 1) by omega]
    omega

theorem rs_le {f : Nat → Nat} {a B : Nat} : ∀ d, (∀ i, a ≤ i → i < a + d → f i ≤ B) → rs f a d ≤ d * B
  | 0, _ => by simp [rs]
  | d + 1, h => by
    have h1 := rs_le d (fun i h1 h2 => h i h1 (by omega))
    have h2 := h (a + d) (by omega) (by omega)
    simp only [rs]
    rw [Nat.add_mul]; omega

theorem rs_mem {f : Nat → Nat} {a : Nat} : ∀ d i, a ≤ i → i < a + d → f i ≤ rs f a d
  | 0, i, h1, h2 => by omega
  | d + 1, i, h1, h2 => by
    simp only [rs]
    by_cases e : i = a + d
    · subst e; omega
    · have := rs_mem (f := f) d i h1 (by omega); omega

theorem rs_upd_out {f : Nat → Nat} {a d j v : Nat} (h : j < a ∨ a + d ≤ j) : rs (upd f j v) a d = rs f a d :=
  rs_congr d (fun i h1 h2 => upd_other _ _ _ _ (by omega))

/-! ### One pick -/
/-- Is the next leaf taken (else the next joined node)? -/
def pk (n made leaf joined : Nat) (wt : Nat → Nat) : Bool := decide (leaf < n) && (decide (joined = made) || decide (wt leaf ≤ wt joined))
def pX (n made leaf joined : Nat) (wt : Nat → Nat) : Nat := if pk n made leaf joined wt = true then leaf else joined
def pL (n made leaf joined : Nat) (wt : Nat → Nat) : Nat := if pk n made leaf joined wt = true then leaf + 1 else leaf
def pJ (n made leaf joined : Nat) (wt : Nat → Nat) : Nat := if pk n made leaf joined wt = true then joined else joined + 1

/-- The two ways of a pick. -/
def Way (n made leaf joined : Nat) (wt : Nat → Nat) : Prop :=
  (pX n made leaf joined wt = leaf ∧ leaf < n ∧ pL n made leaf joined wt = leaf + 1 ∧ pJ n made leaf joined wt = joined ∧ (joined = made ∨ wt leaf ≤ wt joined)) ∨
  (pX n made leaf joined wt = joined ∧ joined < made ∧ pL n made leaf joined wt = leaf ∧ pJ n made leaf joined wt = joined + 1 ∧ (leaf = n ∨ wt joined < wt leaf))

theorem way {n made leaf joined : Nat} {wt : Nat → Nat} (h1 : leaf ≤ n) (h2 : joined ≤ made) (h3 : leaf < n ∨ joined < made) : Way n made leaf joined wt := by
  unfold Way pX pL pJ
  by_cases h : pk n made leaf joined wt = true
  · simp only [h, if_true]
    simp [pk] at h
    exact .inl ⟨trivial, h.1, trivial, trivial, h.2⟩
  · simp only [h]
    simp [pk] at h
    refine .inr ⟨rfl, ?_, rfl, rfl, ?_⟩
    · by_cases hl : leaf < n
      · have := h hl; omega
      · omega
    · by_cases hl : leaf < n
      · exact .inr (h hl).2
      · left; omega

/-! ### The run -/
structure St where
  leaf : Nat
  joined : Nat
  wt : Nat → Nat
  par : Nat → Nat

def aOf (n made : Nat) (s : St) : Nat := pX n made s.leaf s.joined s.wt
def l1 (n made : Nat) (s : St) : Nat := pL n made s.leaf s.joined s.wt
def j1 (n made : Nat) (s : St) : Nat := pJ n made s.leaf s.joined s.wt
def bOf (n made : Nat) (s : St) : Nat := pX n made (l1 n made s) (j1 n made s) s.wt
def l2 (n made : Nat) (s : St) : Nat := pL n made (l1 n made s) (j1 n made s) s.wt
def j2 (n made : Nat) (s : St) : Nat := pJ n made (l1 n made s) (j1 n made s) s.wt

def step (n made : Nat) (s : St) : St :=
  ⟨l2 n made s, j2 n made s, upd s.wt made (s.wt (aOf n made s) + s.wt (bOf n made s)), upd (upd s.par (aOf n made s) made) (bOf n made s) made⟩

def run (n : Nat) (W0 : Nat → Nat) : Nat → St
  | 0 => ⟨0, n, fun i => if i < n then W0 i else 0, fun _ => 0⟩
  | k + 1 => step n (n + k) (run n W0 k)

/-- What needs no order among the weights. -/
structure Inv (n k T : Nat) (W0 : Nat → Nat) (s : St) : Prop where
  h1 : s.leaf ≤ n
  h2 : n ≤ s.joined
  h3 : s.joined ≤ n + k
  h4 : s.leaf + s.joined = n + 2 * k
  h5 : 0 < k → s.joined < n + k
  hw : ∀ i, i < n → s.wt i = W0 i
  hz : ∀ i, n + k ≤ i → s.wt i = 0
  sum : rs s.wt s.leaf (n - s.leaf) + rs s.wt s.joined (n + k - s.joined) = T
  le : ∀ i, s.wt i ≤ T
  pr : ∀ x, x < s.leaf ∨ (n ≤ x ∧ x < s.joined) → n ≤ s.par x ∧ s.par x < n + k ∧ x < s.par x
  pz : ∀ x, (s.leaf ≤ x ∧ x < n) ∨ s.joined ≤ x → s.par x = 0
  pm1 : ∀ i j, i ≤ j → j < s.leaf → s.par i ≤ s.par j
  pm2 : ∀ i j, n ≤ i → i ≤ j → j < s.joined → s.par i ≤ s.par j
  cnt : ∀ g : Nat → Nat, rs (fun i => g (s.par i)) 0 s.leaf + rs (fun i => g (s.par i)) n (s.joined - n) = 2 * rs g n k

/-- What a pick gives, in one row. -/
structure Picked (n made leaf joined x leaf' joined' : Nat) (wt : Nat → Nat) : Prop where
  a1 : leaf' ≤ n
  a2 : n ≤ joined'
  a3 : joined' ≤ made
  a4 : leaf' + joined' = leaf + joined + 1
  a5 : leaf ≤ leaf'
  a6 : joined ≤ joined'
  a7 : x = leaf ∧ leaf' = leaf + 1 ∨ x = joined ∧ joined' = joined + 1
  a8 : x < made
  sum : ∀ d, rs wt leaf (n - leaf) + rs wt joined (made - joined) = d → rs wt leaf' (n - leaf') + rs wt joined' (made - joined') + wt x = d

theorem picked {n made leaf joined : Nat} {wt : Nat → Nat} (h1 : leaf ≤ n) (h2 : n ≤ joined) (h3 : joined ≤ made) (h4 : leaf < n ∨ joined < made) :
    Picked n made leaf joined (pX n made leaf joined wt) (pL n made leaf joined wt) (pJ n made leaf joined wt) wt := by
  rcases way (wt := wt) h1 h3 h4 with ⟨e1, e2, e3, e4, _⟩ | ⟨e1, e2, e3, e4, _⟩
  · rw [e1, e3, e4]
    refine ⟨by omega, by omega, by omega, by omega, by omega, by omega, .inl ⟨rfl, rfl⟩, by omega, fun d hd => ?_⟩
    have := rs_front wt leaf (n - (leaf + 1))
    rw [show n - (leaf + 1) + 1 = n - leaf by omega] at this
    omega
  · rw [e1, e3, e4]
    refine ⟨by omega, by omega, by omega, by omega, by omega, by omega, .inr ⟨rfl, rfl⟩, by omega, fun d hd => ?_⟩
    have := rs_front wt joined (made - (joined + 1))
    rw [show made - (joined + 1) + 1 = made - joined by omega] at this
    omega

theorem cnt_take {n made leaf joined x leaf' joined' : Nat} {wt : Nat → Nat} (p : Picked n made leaf joined x leaf' joined' wt) (h1 : leaf ≤ n) (h2 : n ≤ joined) (par : Nat → Nat) (g : Nat → Nat) :
    rs (fun i => g (upd par x made i)) 0 leaf' + rs (fun i => g (upd par x made i)) n (joined' - n) = rs (fun i => g (par i)) 0 leaf + rs (fun i => g (par i)) n (joined - n) + g made := by
  have e : (fun i => g (upd par x made i)) = upd (fun i => g (par i)) x (g made) := by
    funext i; by_cases h : i = x <;> simp [upd, h]
  have q1 := p.a1; have q4 := p.a4
  rw [e]
  rcases p.a7 with ⟨rfl, e2⟩ | ⟨rfl, e2⟩
  · have e3 : joined' = joined := by omega
    rw [e2, e3, rs_upd_out (a := n) (by omega)]
    simp only [rs]
    rw [rs_upd_out (by omega), Nat.zero_add, upd_same]
    omega
  · have e3 : leaf' = leaf := by omega
    rw [e2, e3, rs_upd_out (a := 0) (by omega), show x + 1 - n = (x - n) + 1 by omega]
    simp only [rs]
    rw [rs_upd_out (by omega), show n + (x - n) = x by omega, upd_same]
    omega

/-- The state at a step's two picks. -/
theorem two_picks {n k T : Nat} {W0 : Nat → Nat} {s : St} (h : Inv n k T W0 s) (hk : k + 1 < n) :
    Picked n (n + k) s.leaf s.joined (aOf n (n + k) s) (l1 n (n + k) s) (j1 n (n + k) s) s.wt ∧
    Picked n (n + k) (l1 n (n + k) s) (j1 n (n + k) s) (bOf n (n + k) s) (l2 n (n + k) s) (j2 n (n + k) s) s.wt := by
  have p : Picked n (n + k) s.leaf s.joined (aOf n (n + k) s) (l1 n (n + k) s) (j1 n (n + k) s) s.wt := picked (wt := s.wt) h.h1 h.h2 h.h3 (by have := h.h4; have := h.h1; have := h.h3; omega)
  refine ⟨p, ?_⟩
  exact picked p.a1 p.a2 p.a3 (by have := p.a4; have := h.h4; omega)

theorem a_ne_b {n k T : Nat} {W0 : Nat → Nat} {s : St} (h : Inv n k T W0 s) (hk : k + 1 < n) : aOf n (n + k) s ≠ bOf n (n + k) s := by
  obtain ⟨p, q⟩ := two_picks h hk
  have := p.a7; have := q.a7; have := p.a4; have := q.a4; have := p.a1; have := q.a1; have := h.h2; have := p.a5; have := p.a6; have := q.a5; have := q.a6
  omega

theorem sum_ab {n k T : Nat} {W0 : Nat → Nat} {s : St} (h : Inv n k T W0 s) (hk : k + 1 < n) : s.wt (aOf n (n + k) s) + s.wt (bOf n (n + k) s) ≤ T := by
  obtain ⟨p, q⟩ := two_picks h hk
  have := q.sum _ rfl
  have := p.sum _ h.sum
  omega

theorem inv_zero (n : Nat) (W0 : Nat → Nat) : Inv n 0 (rs W0 0 n) W0 (run n W0 0) := by
  have e : rs (fun i => if i < n then W0 i else 0) 0 n = rs W0 0 n := rs_congr n (fun i _ h2 => by simp; omega)
  refine ⟨by simp [run], by simp [run], by simp [run], by simp [run], fun h => by omega, fun i hi => by simp [run, hi], fun i hi => by simp [run]; omega, ?_, fun i => ?_, fun x hx => ?_, fun x hx => rfl, fun i j _ hj => ?_, fun i j h1 h2 hj => ?_, fun g => ?_⟩
  · simp [run, rs, e]
  · simp only [run]
    split
    · exact rs_mem n i (Nat.zero_le _) (by omega)
    · omega
  · simp [run] at hx; omega
  · simp [run] at hj
  · simp [run] at hj; omega
  · simp [run, rs]

theorem inv_step {n k T : Nat} {W0 : Nat → Nat} {s : St} (h : Inv n k T W0 s) (hk : k + 1 < n) : Inv n (k + 1) T W0 (step n (n + k) s) := by
  obtain ⟨p, q⟩ := two_picks h hk
  have hab := a_ne_b h hk
  have hsum := sum_ab h hk
  have c1 := fun g => cnt_take p h.h1 h.h2 s.par g
  have c2 := fun g => cnt_take q p.a1 p.a2 (upd s.par (aOf n (n + k) s) (n + k)) g
  obtain ⟨h1, h2, h3, h4, h5, hw, hz, sum, le, pr, pz, pm1, pm2, cnt⟩ := h
  have s1 := p.sum _ sum
  have s2 := q.sum _ rfl
  unfold step
  generalize hA : aOf n (n + k) s = a at *
  generalize hB : bOf n (n + k) s = b at *
  generalize hL1 : l1 n (n + k) s = L1 at *
  generalize hJ1 : j1 n (n + k) s = J1 at *
  generalize hL2 : l2 n (n + k) s = L2 at *
  generalize hJ2 : j2 n (n + k) s = J2 at *
  have p1 := p.a1; have p2 := p.a2; have p3 := p.a3; have p4 := p.a4; have p5 := p.a5; have p6 := p.a6; have p7 := p.a7; have p8 := p.a8
  have q1 := q.a1; have q2 := q.a2; have q3 := q.a3; have q4 := q.a4; have q5 := q.a5; have q6 := q.a6; have q7 := q.a7; have q8 := q.a8
  -- where the new parents stand
  have hpar : ∀ x, (x = a ∨ x = b) → upd (upd s.par a (n + k)) b (n + k) x = n + k := by
    intro x hx
    by_cases e : x = b
    · subst e; exact upd_same _ _ _
    · rw [upd_other _ _ _ _ e]
      rcases hx with rfl | rfl
      · exact upd_same _ _ _
      · exact absurd rfl e
  have hold : ∀ x, x ≠ a → x ≠ b → upd (upd s.par a (n + k)) b (n + k) x = s.par x := fun x e1 e2 => by rw [upd_other _ _ _ _ e2, upd_other _ _ _ _ e1]
  have hnew : ∀ x, x < L2 ∨ (n ≤ x ∧ x < J2) → (x = a ∨ x = b) ∨ ((x < s.leaf ∨ (n ≤ x ∧ x < s.joined)) ∧ x ≠ a ∧ x ≠ b) := fun x hx => by omega
  refine ⟨by simpa using q1, by simpa using q2, by show J2 ≤ n + (k + 1); omega, by show L2 + J2 = n + 2 * (k + 1); omega, fun _ => by show J2 < n + (k + 1); omega, fun i hi => ?_, fun i hi => ?_, ?_, fun i => ?_, fun x hx => ?_, fun x hx => ?_, fun i j hij hj => ?_, fun i j hi hij hj => ?_, fun g => ?_⟩
  · show upd s.wt (n + k) _ i = _
    rw [upd_other _ _ _ _ (by omega)]; exact hw i hi
  · show upd s.wt (n + k) _ i = _
    rw [upd_other _ _ _ _ (by omega)]; exact hz i (by omega)
  · show rs (upd s.wt (n + k) _) L2 (n - L2) + rs (upd s.wt (n + k) _) J2 (n + (k + 1) - J2) = T
    rw [rs_upd_out (by omega), show n + (k + 1) - J2 = (n + k - J2) + 1 by omega]
    simp only [rs]
    rw [rs_upd_out (by omega), show J2 + (n + k - J2) = n + k by omega, upd_same]
    omega
  · show upd s.wt (n + k) _ i ≤ T
    by_cases e : i = n + k
    · subst e; rw [upd_same]; exact hsum
    · rw [upd_other _ _ _ _ e]; exact le i
  · show n ≤ upd (upd s.par a (n + k)) b (n + k) x ∧ upd (upd s.par a (n + k)) b (n + k) x < n + (k + 1) ∧ x < upd (upd s.par a (n + k)) b (n + k) x
    rcases hnew x hx with hx' | ⟨hx', e1, e2⟩
    · rw [hpar x hx']; omega
    · rw [hold x e1 e2]; have := pr x hx'; omega
  · show upd (upd s.par a (n + k)) b (n + k) x = 0
    change (L2 ≤ x ∧ x < n) ∨ J2 ≤ x at hx
    rw [hold x (by omega) (by omega)]; exact pz x (by omega)
  · show upd (upd s.par a (n + k)) b (n + k) i ≤ upd (upd s.par a (n + k)) b (n + k) j
    change j < L2 at hj
    rcases hnew j (.inl hj) with hj' | ⟨hj', e1, e2⟩
    · rw [hpar j hj']
      rcases hnew i (.inl (by omega)) with hi' | ⟨hi', e1, e2⟩
      · rw [hpar i hi']; omega
      · rw [hold i e1 e2]; have := pr i hi'; omega
    · rw [hold j e1 e2]
      have hjl : j < s.leaf := by omega
      rw [hold i (by omega) (by omega)]
      exact pm1 i j hij hjl
  · show upd (upd s.par a (n + k)) b (n + k) i ≤ upd (upd s.par a (n + k)) b (n + k) j
    change j < J2 at hj
    rcases hnew j (.inr ⟨by omega, hj⟩) with hj' | ⟨hj', e1, e2⟩
    · rw [hpar j hj']
      rcases hnew i (.inr ⟨hi, by omega⟩) with hi' | ⟨hi', e1, e2⟩
      · rw [hpar i hi']; omega
      · rw [hold i e1 e2]; have := pr i hi'; omega
    · rw [hold j e1 e2]
      have hjl : j < s.joined := by omega
      rw [hold i (by omega) (by omega)]
      exact pm2 i j hi hij hjl
  · show rs (fun i => g (upd (upd s.par a (n + k)) b (n + k) i)) 0 L2 + rs (fun i => g (upd (upd s.par a (n + k)) b (n + k) i)) n (J2 - n) = 2 * rs g n (k + 1)
    have := c1 g; have := c2 g; have := cnt g
    simp only [rs]
    omega

theorem inv_run (n : Nat) (W0 : Nat → Nat) : ∀ k, k < n → Inv n k (rs W0 0 n) W0 (run n W0 k)
  | 0, _ => inv_zero n W0
  | k + 1, hk => inv_step (inv_run n W0 k (by omega)) hk

/-! ### Depths -/
def depF (par : Nat → Nat) (root : Nat) : Nat → Nat → Nat
  | 0, _ => 0
  | f + 1, i => if root ≤ i then 0 else depF par root f (par i) + 1
/-- How many steps up from i to the root. -/
def dep (par : Nat → Nat) (root i : Nat) : Nat := depF par root root i

theorem depF_more {par : Nat → Nat} {root : Nat} (hp : ∀ i, i < root → i < par i) : ∀ f g i, root ≤ i + f → root ≤ i + g → depF par root f i = depF par root g i
  | 0, 0, _, _, _ => rfl
  | 0, g + 1, i, h1, _ => by simp only [depF]; rw [if_pos (by omega)]
  | f + 1, 0, i, _, h2 => by simp only [depF]; rw [if_pos (by omega)]
  | f + 1, g + 1, i, h1, h2 => by
    simp only [depF]
    by_cases h : root ≤ i
    · rw [if_pos h, if_pos h]
    · rw [if_neg h, if_neg h]
      have := hp i (by omega)
      rw [depF_more hp f g (par i) (by omega) (by omega)]

theorem dep_root (par : Nat → Nat) (root i : Nat) (h : root ≤ i) : dep par root i = 0 := by
  unfold dep
  cases root with
  | zero => rfl
  | succ r => simp only [depF]; rw [if_pos h]

theorem dep_up {par : Nat → Nat} {root i : Nat} (hp : ∀ i, i < root → i < par i) (h : i < root) : dep par root i = dep par root (par i) + 1 := by
  unfold dep
  cases root with
  | zero => omega
  | succ r =>
    have hi := hp i h
    simp only [depF]
    rw [if_neg (by omega), depF_more hp r (r + 1) (par i) (by omega) (by omega)]
    simp only [depF]

/-- At the end every node but the last is used. -/
theorem last {n T : Nat} {W0 : Nat → Nat} {s : St} (h : Inv n (n - 1) T W0 s) (x : Nat) (hx : x < 2 * n - 2) : x < s.leaf ∨ (n ≤ x ∧ x < s.joined) := by
  have h1 := h.h1; have h2 := h.h2; have h3 := h.h3; have h4 := h.h4; have h5 := h.h5
  omega

theorem last_par {n T : Nat} {W0 : Nat → Nat} {s : St} (h : Inv n (n - 1) T W0 s) (x : Nat) (hx : x < 2 * n - 2) : n ≤ s.par x ∧ s.par x ≤ 2 * n - 2 ∧ x < s.par x := by
  have := h.pr x (last h x hx)
  omega

end Huff
end Go.Proofs.Qxb6606286a
