/-
  PLAIN MATHEMATICS, NO Go IN SIGHT: the depth-first walk as the loop of 'dominators' carries it out, its invariant, and that it leaves what YbulkexnjuGraph calls 'Dfs'.
-/
import Derived.Test.YbulkexnjuGraph
namespace Go.Proofs.Ybulkexnju.G

def upd {α : Type} (f : Nat → α) (i : Nat) (x : α) : Nat → α := fun j => if j = i then x else f j
theorem upd_same {α : Type} (f : Nat → α) (i : Nat) (x : α) : upd f i x i = x := if_pos rfl
theorem upd_other {α : Type} (f : Nat → α) {i j : Nat} (x : α) (h : j ≠ i) : upd f i x j = f j := if_neg h

/-- how many of f 0, .., f (n-1) are not negative -/
def cntNN (f : Nat → Int) : Nat → Nat
  | 0 => 0
  | n + 1 => cntNN f n + if 0 ≤ f n then 1 else 0

theorem cntNN_le (f : Nat → Int) (n : Nat) : cntNN f n ≤ n := by
  induction n with
  | zero => exact Nat.le_refl _
  | succ n ih => simp only [cntNN]; split <;> omega

theorem cntNN_lt (f : Nat → Int) {n w : Nat} (hw : w < n) (h : f w < 0) : cntNN f n < n := by
  induction n with
  | zero => omega
  | succ n ih =>
    simp only [cntNN]
    by_cases e : w = n
    · subst e
      have := cntNN_le f w
      rw [if_neg (by omega)]; omega
    · have := ih (by omega)
      split <;> omega

theorem cntNN_out (f : Nat → Int) {n w : Nat} (x : Int) (hw : n ≤ w) : cntNN (upd f w x) n = cntNN f n := by
  induction n with
  | zero => rfl
  | succ n ih => simp only [cntNN]; rw [ih (by omega), upd_other f x (by omega)]

theorem cntNN_upd (f : Nat → Int) {n w : Nat} {x : Int} (hw : w < n) (h : f w < 0) (hx : 0 ≤ x) : cntNN (upd f w x) n = cntNN f n + 1 := by
  induction n with
  | zero => omega
  | succ n ih =>
    simp only [cntNN]
    by_cases e : w = n
    · subst e
      rw [cntNN_out f x (Nat.le_refl _), upd_same, if_pos hx, if_neg (by omega)]
    · rw [ih (by omega), upd_other f x (by omega)]; omega

/-- the ancestors of a node below K hang on the parents below K alone -/
theorem iter_congr {p q : Nat → Nat} {K : Nat} (hpq : ∀ x, x < K → p x = q x) (hp : ∀ x, x < K → p x < K) (k : Nat) : ∀ {b : Nat}, b < K → iter p k b = iter q k b := by
  induction k with
  | zero => intro b _; rfl
  | succ k ih =>
    intro b hb
    show iter p k (p b) = iter q k (q b)
    rw [← hpq b hb]
    exact ih (hp b hb)

theorem Anc.congr {p q : Nat → Nat} {K : Nat} (hpq : ∀ x, x < K → p x = q x) (hp : ∀ x, x < K → p x < K) {a b : Nat} (hb : b < K) (h : Anc p a b) : Anc q a b := by
  obtain ⟨k, hk⟩ := h
  exact ⟨k, by rw [← hk]; exact (iter_congr hpq hp k hb).symm⟩

/-- an edge: one of a node's two successors -/
def Edge (sc : Nat → Int) (a b : Nat) : Prop := ∃ j, j < 2 ∧ sc (2 * a + j) = (b : Int)

/-- the loop's invariant: 'd' visits are open, visit i at the node numbered 'tv i', 'tj i' of whose successors are done -/
structure DInv (NB : Nat) (sc num : Nat → Int) (ord par : Nat → Nat) (K d : Nat) (tv tj : Nat → Nat) : Prop where
  k1 : 1 ≤ K
  kc : cntNN num NB = K
  o0 : ord 0 = 0
  oN : ∀ k, k < K → ord k < NB ∧ num (ord k) = k
  nO : ∀ v, v < NB → 0 ≤ num v → ∃ k, k < K ∧ num v = k ∧ ord k = v
  p0 : par 0 = 0
  plt : ∀ k, 0 < k → k < K → par k < k
  pe : ∀ k, 0 < k → k < K → Edge sc (ord (par k)) (ord k)
  pre : ∀ k, 0 < k → k < K → Anc par (par k) (k - 1)
  t : ∀ i, i < d → tv i < K ∧ tj i ≤ 2
  mo : ∀ i j, i < j → j < d → tv i < tv j
  i3 : ∀ i, i < d → ∀ k, k < K → tv i ≤ k → Anc par (tv i) k
  i2 : ∀ i, i < d → ∀ j, j < tj i → ∀ w : Nat, sc (2 * ord (tv i) + j) = w → ∃ m, m < K ∧ num w = m ∧ (tv i < m → Anc par (tv i) m)
  i1 : ∀ k, k < K → (∀ i, i < d → tv i ≠ k) → ∀ j, j < 2 → ∀ w : Nat, sc (2 * ord k + j) = w → ∃ m, m < K ∧ num w = m ∧ (k < m → Anc par k m)

theorem DInv.start {NB : Nat} {sc num : Nat → Int} {ord par tv tj : Nat → Nat} (hN : 0 < NB) (hn : ∀ v, v < NB → num v = if v = 0 then 0 else -1) (ho : ord 0 = 0) (hp : par 0 = 0) (hv : tv 0 = 0) (hj : tj 0 = 0) :
    DInv NB sc num ord par 1 1 tv tj := by
  have hc : ∀ n, n ≤ NB → cntNN num n = if 0 < n then 1 else 0 := by
    intro n
    induction n with
    | zero => intro _; rfl
    | succ n ih =>
      intro h
      simp only [cntNN]
      rw [ih (by omega), hn n (by omega)]
      by_cases e : n = 0
      · subst e; rfl
      · rw [if_pos (by omega), if_neg e, if_neg (by omega), if_pos (by omega)]
  refine ⟨Nat.le_refl _, by rw [hc NB (Nat.le_refl _), if_pos hN], ho, ?_, ?_, hp, ?_, ?_, ?_, ?_, fun i j h1 h2 => by omega, ?_, ?_, ?_⟩
  · intro k hk
    obtain rfl : k = 0 := by omega
    rw [ho]; exact ⟨hN, by rw [hn 0 hN]; rfl⟩
  · intro v hv' h
    rw [hn v hv'] at h ⊢
    by_cases e : v = 0
    · subst e; exact ⟨0, by omega, rfl, ho⟩
    · rw [if_neg e] at h; omega
  · intro k h1 h2; omega
  · intro k h1 h2; omega
  · intro k h1 h2; omega
  · intro i hi
    obtain rfl : i = 0 := by omega
    rw [hv, hj]; omega
  · intro i hi k hk _
    obtain rfl : i = 0 := by omega
    obtain rfl : k = 0 := by omega
    rw [hv]; exact Anc.refl par 0
  · intro i hi j hj'
    obtain rfl : i = 0 := by omega
    rw [hj] at hj'; omega
  · intro k hk h
    obtain rfl : k = 0 := by omega
    exact absurd hv (h 0 (by omega))

section
variable {NB : Nat} {sc num : Nat → Int} {ord par tv tj : Nat → Nat} {K d : Nat}

theorem DInv.kN (h : DInv NB sc num ord par K d tv tj) : K ≤ NB := by rw [← h.kc]; exact cntNN_le num NB

theorem DInv.ple (h : DInv NB sc num ord par K d tv tj) {x : Nat} (hx : x < K) : par x < K := by
  by_cases e : 0 < x
  · have := h.plt x e hx; omega
  · obtain rfl : x = 0 := by omega
    rw [h.p0]; exact hx

/-- a visit is over -/
theorem DInv.pop (h : DInv NB sc num ord par K (d + 1) tv tj) (hj : tj d = 2) : DInv NB sc num ord par K d tv tj := by
  refine { h with t := fun i hi => h.t i (by omega), mo := fun i j h1 h2 => h.mo i j h1 (by omega), i3 := fun i hi => h.i3 i (by omega), i2 := fun i hi => h.i2 i (by omega), i1 := ?_ }
  intro k hk hne j hj' w hw
  by_cases e : tv d = k
  · subst e
    exact h.i2 d (by omega) j (by omega) w hw
  · refine h.i1 k hk (fun i hi => ?_) j hj' w hw
    by_cases e2 : i = d
    · subst e2; exact e
    · exact hne i (by omega)

/-- a successor that is none, or numbered already -/
theorem DInv.skip (h : DInv NB sc num ord par K (d + 1) tv tj) (hj : tj d < 2) (hsc : ∀ w : Nat, sc (2 * ord (tv d) + tj d) = w → w < NB ∧ 0 ≤ num w) :
    DInv NB sc num ord par K (d + 1) tv (upd tj d (tj d + 1)) := by
  refine { h with t := ?_, i2 := ?_ }
  · intro i hi
    by_cases e : i = d
    · subst e; rw [upd_same]; exact ⟨(h.t i hi).1, by omega⟩
    · rw [upd_other _ _ e]; exact h.t i hi
  · intro i hi j hj' w hw
    by_cases e : i = d
    · subst e
      rw [upd_same] at hj'
      by_cases e2 : j = tj i
      · subst e2
        obtain ⟨h1, h2⟩ := hsc w hw
        obtain ⟨k, k1, k2, _⟩ := h.nO w h1 h2
        exact ⟨k, k1, k2, fun hlt => h.i3 i hi k k1 (by omega)⟩
      · exact h.i2 i hi j (by omega) w hw
    · rw [upd_other _ _ e] at hj'
      exact h.i2 i hi j hj' w hw

/-- a new node -/
theorem DInv.push (h : DInv NB sc num ord par K (d + 1) tv tj) (hj : tj d < 2) {w : Nat} (hw : sc (2 * ord (tv d) + tj d) = w) (hwN : w < NB) (hn : num w < 0) :
    K < NB ∧ DInv NB sc (upd num w K) (upd ord K w) (upd par K (tv d)) (K + 1) (d + 1 + 1) (upd tv (d + 1) K) (upd (upd tj d (tj d + 1)) (d + 1) 0) := by
  have hK : K < NB := by rw [← h.kc]; exact cntNN_lt num hwN hn
  refine ⟨hK, ?_⟩
  have ht := h.t d (by omega)
  have hp : ∀ x, x < K → par x = upd par K (tv d) x := fun x hx => (upd_other _ _ (by omega)).symm
  have hpk : ∀ x, x < K → par x < K := fun x hx => h.ple hx
  have anc : ∀ {a b}, b < K → Anc par a b → Anc (upd par K (tv d)) a b := fun hb ha => Anc.congr hp hpk hb ha
  have hnum : ∀ {v : Nat} {m : Nat}, num v = m → upd num w K v = m := by
    intro v m hv
    by_cases e : v = w
    · subst e; omega
    · rw [upd_other _ _ e]; exact hv
  have hord : ∀ {k}, k < K → upd ord K w k = ord k := fun hk => upd_other _ _ (by omega)
  have htv : ∀ {i}, i < d + 1 → upd tv (d + 1) K i = tv i := fun hi => upd_other _ _ (by omega)
  have htj : ∀ {i}, i < d + 1 → upd (upd tj d (tj d + 1)) (d + 1) 0 i = if i = d then tj d + 1 else tj i := fun hi => by rw [upd_other _ _ (by omega)]; rfl
  have new : Anc (upd par K (tv d)) (tv d) K := by
    have := Anc.par (upd par K (tv d)) K
    rwa [upd_same] at this
  refine ⟨by omega, by rw [cntNN_upd num hwN hn (by omega), h.kc], by rw [hord (by have := h.k1; omega)]; exact h.o0, ?_, ?_, ?_, ?_, ?_, ?_, ?_, ?_, ?_, ?_, ?_⟩
  · intro k hk
    by_cases e : k = K
    · subst e; rw [upd_same, upd_same]; exact ⟨hwN, rfl⟩
    · have := h.oN k (by omega)
      rw [hord (by omega)]
      exact ⟨this.1, hnum this.2⟩
  · intro v hv hp
    by_cases e : v = w
    · subst e; exact ⟨K, by omega, by rw [upd_same], by rw [upd_same]⟩
    · rw [upd_other _ _ e] at hp
      obtain ⟨k, k1, k2, k3⟩ := h.nO v hv hp
      exact ⟨k, by omega, by rw [upd_other _ _ e]; exact k2, by rw [hord k1]; exact k3⟩
  · rw [upd_other _ _ (by have := h.k1; omega)]; exact h.p0
  · intro k h1 h2
    by_cases e : k = K
    · subst e; rw [upd_same]; exact ht.1
    · rw [upd_other _ _ e]; exact h.plt k h1 (by omega)
  · intro k h1 h2
    by_cases e : k = K
    · subst e
      rw [upd_same, upd_same, hord ht.1]
      exact ⟨tj d, hj, hw⟩
    · have := h.plt k h1 (by omega)
      rw [upd_other _ _ e, hord (by omega), hord (by omega)]; exact h.pe k h1 (by omega)
  · intro k h1 h2
    by_cases e : k = K
    · subst e
      rw [upd_same]
      exact anc (by omega) (h.i3 d (by omega) (k - 1) (by omega) (by omega))
    · rw [upd_other _ _ e]; exact anc (by omega) (h.pre k h1 (by omega))
  · intro i hi
    by_cases e : i = d + 1
    · subst e; rw [upd_same, upd_same]; omega
    · rw [htv (by omega), htj (by omega)]
      have := h.t i (by omega)
      refine ⟨by omega, ?_⟩
      split <;> omega
  · intro i j h1 h2
    have hi := h.t i (by omega)
    rw [htv (by omega)]
    by_cases e : j = d + 1
    · subst e; rw [upd_same]; exact hi.1
    · rw [htv (by omega)]; exact h.mo i j h1 (by omega)
  · intro i hi k hk hle
    by_cases e : i = d + 1
    · subst e
      rw [upd_same] at hle ⊢
      obtain rfl : k = K := by omega
      exact Anc.refl _ _
    · rw [htv (by omega)] at hle ⊢
      by_cases e2 : k = K
      · subst e2
        refine Anc.trans ?_ new
        by_cases e3 : i = d
        · subst e3; exact Anc.refl _ _
        · exact anc ht.1 (h.i3 i (by omega) (tv d) ht.1 (Nat.le_of_lt (h.mo i d (by omega) (by omega))))
      · exact anc (by omega) (h.i3 i (by omega) k (by omega) hle)
  · intro i hi j hj' x hx
    by_cases e : i = d + 1
    · subst e; rw [upd_same] at hj'; omega
    · rw [htv (by omega), hord (h.t i (by omega)).1] at hx
      rw [htj (by omega)] at hj'
      rw [htv (by omega)]
      by_cases e2 : i = d ∧ j = tj d
      · obtain ⟨rfl, rfl⟩ := e2
        obtain rfl : x = w := by omega
        exact ⟨K, by omega, by rw [upd_same], fun _ => new⟩
      · have hj2 : j < tj i := by
          by_cases e3 : i = d
          · subst e3; rw [if_pos rfl] at hj'; omega
          · rw [if_neg e3] at hj'; exact hj'
        obtain ⟨m, m1, m2, m3⟩ := h.i2 i (by omega) j hj2 x hx
        exact ⟨m, by omega, hnum m2, fun hlt => anc m1 (m3 hlt)⟩
  · intro k hk hne j hj' x hx
    have hkK : k ≠ K := fun e => hne (d + 1) (by omega) (by rw [upd_same]; exact e.symm)
    rw [hord (by omega)] at hx
    obtain ⟨m, m1, m2, m3⟩ := h.i1 k (by omega) (fun i hi => by have := hne i (by omega); rwa [htv hi] at this) j hj' x hx
    exact ⟨m, by omega, hnum m2, fun hlt => anc m1 (m3 hlt)⟩

/-- what is left to do: every round lowers it -/
def visits (tj : Nat → Nat) : Nat → Nat
  | 0 => 0
  | d + 1 => visits tj d + (3 - tj d)

theorem visits_out (tj : Nat → Nat) {d i : Nat} (x : Nat) (h : d ≤ i) : visits (upd tj i x) d = visits tj d := by
  induction d with
  | zero => rfl
  | succ d ih => simp only [visits]; rw [ih (by omega), upd_other _ _ (by omega)]

theorem visits_skip (tj : Nat → Nat) (d : Nat) (h : tj d < 2) : visits (upd tj d (tj d + 1)) (d + 1) < visits tj (d + 1) := by
  simp only [visits]
  rw [visits_out tj _ (Nat.le_refl _), upd_same]; omega

theorem visits_push (tj : Nat → Nat) (d : Nat) (h : tj d < 2) : visits (upd (upd tj d (tj d + 1)) (d + 1) 0) (d + 1 + 1) + 1 = visits tj (d + 1) + 3 := by
  have e : visits (upd (upd tj d (tj d + 1)) (d + 1) 0) (d + 1 + 1) = visits (upd (upd tj d (tj d + 1)) (d + 1) 0) (d + 1) + (3 - upd (upd tj d (tj d + 1)) (d + 1) 0 (d + 1)) := rfl
  rw [e, visits_out _ _ (Nat.le_refl _), upd_same]
  simp only [visits]
  rw [visits_out tj _ (Nat.le_refl _), upd_same]; omega

/-- the edges between the numbers -/
def EN (sc : Nat → Int) (ord : Nat → Nat) (K : Nat) (a b : Nat) : Prop := a < K ∧ b < K ∧ Edge sc (ord a) (ord b)

/-- THE WALK IS OVER -/
theorem DInv.dfs (h : DInv NB sc num ord par K 0 tv tj) : Dfs K (EN sc ord K) par := by
  refine ⟨h.p0, h.plt, fun w h1 h2 => ⟨by have := h.plt w h1 h2; omega, h2, h.pe w h1 h2⟩, fun u v e => ⟨e.1, e.2.1⟩, h.pre, ?_⟩
  rintro u v ⟨hu, hv, j, hj, e⟩ hlt
  obtain ⟨m, m1, m2, m3⟩ := h.i1 u hu (fun i hi => by omega) j hj _ e
  have := (h.oN v hv).2
  obtain rfl : v = m := by omega
  exact m3 hlt

/-- every successor of a numbered node is numbered -/
theorem DInv.closed (h : DInv NB sc num ord par K 0 tv tj) {k j w : Nat} (hk : k < K) (hj : j < 2) (e : sc (2 * ord k + j) = w) : ∃ m, m < K ∧ num w = m := by
  obtain ⟨m, m1, m2, _⟩ := h.i1 k hk (fun i hi => by omega) j hj w e
  exact ⟨m, m1, m2⟩
end
end Go.Proofs.Ybulkexnju.G
