/-
  PLAIN MATHEMATICS, NO Go IN SIGHT: reachability, the tree of a depth-first walk, semidominators, and the two theorems of Lengauer and Tarjan on immediate dominators.
-/
namespace Go.Proofs.Ybulkexnju.G

/-! ### reachability -/
/-- b is reached from a along R -/
def Rch (R : Nat → Nat → Prop) (a b : Nat) : Prop := ∀ S : Nat → Prop, S a → (∀ x y, S x → R x y → S y) → S b

theorem Rch.refl {R : Nat → Nat → Prop} (a : Nat) : Rch R a a := fun _ h _ => h
theorem Rch.step {R : Nat → Nat → Prop} {a b c : Nat} (h : Rch R a b) (e : R b c) : Rch R a c := fun S h0 hs => hs b c (h S h0 hs) e
theorem Rch.one {R : Nat → Nat → Prop} {a b : Nat} (e : R a b) : Rch R a b := (Rch.refl a).step e
theorem Rch.trans {R : Nat → Nat → Prop} {a b c : Nat} (h : Rch R a b) (k : Rch R b c) : Rch R a c := fun S h0 hs => k S (h S h0 hs) hs
theorem Rch.mono {R R' : Nat → Nat → Prop} (hR : ∀ x y, R x y → R' x y) {a b : Nat} (h : Rch R a b) : Rch R' a b :=
  fun S h0 hs => h S h0 fun x y hx e => hs x y hx (hR x y e)

/-! ### the tree -/
def iter (p : Nat → Nat) : Nat → Nat → Nat
  | 0, v => v
  | k + 1, v => iter p k (p v)

theorem iter_add (p : Nat → Nat) (a b v : Nat) : iter p (a + b) v = iter p a (iter p b v) := by
  induction b generalizing v with
  | zero => rfl
  | succ b ih => exact ih (p v)

/-- a is b or above it -/
def Anc (p : Nat → Nat) (a b : Nat) : Prop := ∃ k, iter p k b = a

theorem Anc.refl (p : Nat → Nat) (a : Nat) : Anc p a a := ⟨0, rfl⟩
theorem Anc.trans {p : Nat → Nat} {a b c : Nat} (h : Anc p a b) (k : Anc p b c) : Anc p a c := by
  obtain ⟨m, rfl⟩ := h
  obtain ⟨n, rfl⟩ := k
  exact ⟨m + n, iter_add p m n c⟩
theorem Anc.par (p : Nat → Nat) (b : Nat) : Anc p (p b) b := ⟨1, rfl⟩
theorem Anc.up {p : Nat → Nat} {a b : Nat} (h : Anc p a b) (hne : a ≠ b) : Anc p a (p b) := by
  obtain ⟨k, hk⟩ := h
  cases k with
  | zero => exact absurd hk.symm hne
  | succ k => exact ⟨k, hk⟩

/-- what a depth-first walk leaves: numbers below N in the order of the walk, p the number of the parent -/
structure Dfs (N : Nat) (E : Nat → Nat → Prop) (p : Nat → Nat) : Prop where
  p0 : p 0 = 0
  plt : ∀ w, 0 < w → w < N → p w < w
  pe : ∀ w, 0 < w → w < N → E (p w) w
  bd : ∀ u v, E u v → u < N ∧ v < N
  pre : ∀ w, 0 < w → w < N → Anc p (p w) (w - 1)
  fwd : ∀ u v, E u v → u < v → Anc p u v

section
variable {N : Nat} {E : Nat → Nat → Prop} {p : Nat → Nat}

theorem Dfs.ple (D : Dfs N E p) {w : Nat} (hw : w < N) : p w ≤ w := by
  by_cases h : 0 < w
  · exact Nat.le_of_lt (D.plt w h hw)
  · obtain rfl : w = 0 := by omega
    rw [D.p0]; exact Nat.le_refl _

theorem Dfs.iter_le (D : Dfs N E p) (k : Nat) : ∀ {w : Nat}, w < N → iter p k w ≤ w := by
  induction k with
  | zero => intro w _; exact Nat.le_refl _
  | succ k ih =>
    intro w hw
    have h1 := D.ple hw
    exact Nat.le_trans (ih (Nat.lt_of_le_of_lt h1 hw)) h1

theorem Dfs.anc_le (D : Dfs N E p) {a b : Nat} (h : Anc p a b) (hb : b < N) : a ≤ b := by
  obtain ⟨k, rfl⟩ := h
  exact D.iter_le k hb

theorem Dfs.anc_zero (D : Dfs N E p) : ∀ {b : Nat}, b < N → Anc p 0 b := by
  intro b
  induction b using Nat.strongRecOn with
  | _ b ih =>
    intro hb
    by_cases h : 0 < b
    · have h1 := D.plt b h hb
      exact (ih (p b) h1 (by omega)).trans (Anc.par p b)
    · obtain rfl : b = 0 := by omega
      exact Anc.refl p 0

/-- two nodes above one: the lesser is above the greater -/
theorem Dfs.anc_cmp (D : Dfs N E p) {a b c : Nat} (ha : Anc p a c) (hb : Anc p b c) (hc : c < N) (hab : a ≤ b) : Anc p a b := by
  obtain ⟨k, rfl⟩ := ha
  obtain ⟨m, rfl⟩ := hb
  by_cases h : m ≤ k
  · refine ⟨k - m, ?_⟩
    rw [← iter_add, Nat.sub_add_cancel h]
  · have e : iter p m c = iter p (m - k) (iter p k c) := by rw [← iter_add]; congr 1; omega
    have h1 := D.iter_le (m - k) (Nat.lt_of_le_of_lt (D.iter_le k hc) hc)
    have h2 : iter p k c = iter p m c := by omega
    rw [h2]; exact Anc.refl p _

/-- the numbers below a node are an interval -/
theorem Dfs.anc_mid (D : Dfs N E p) {a : Nat} : ∀ {b c : Nat}, Anc p a c → a ≤ b → b ≤ c → c < N → Anc p a b := by
  intro b c
  induction c using Nat.strongRecOn with
  | _ c ih =>
    intro h hab hbc hc
    by_cases e : b = c
    · rw [e]; exact h
    · have hlt : a ≠ c := by omega
      have h1 : Anc p a (c - 1) := (h.up hlt).trans (D.pre c (by omega) hc)
      exact ih (c - 1) (by omega) h1 hab (by omega) (by omega)

/-- a way from m that never goes below m stays under m -/
theorem Dfs.stay (D : Dfs N E p) {m z : Nat} (hm : m < N) (h : Rch (fun x y => E x y ∧ m ≤ y) m z) : Anc p m z ∧ m ≤ z ∧ z < N := by
  refine h (fun z => Anc p m z ∧ m ≤ z ∧ z < N) ⟨Anc.refl p m, Nat.le_refl _, hm⟩ ?_
  rintro x y ⟨h1, h2, h3⟩ ⟨e, hy⟩
  have hb := D.bd x y e
  refine ⟨?_, hy, hb.2⟩
  by_cases c : x < y
  · exact h1.trans (D.fwd x y e c)
  · exact D.anc_mid h1 hy (by omega) h3

/-- down the tree -/
theorem Dfs.down (D : Dfs N E p) {a : Nat} : ∀ {b : Nat}, Anc p a b → b < N → Rch (fun x y => E x y ∧ a < y) a b := by
  intro b
  induction b using Nat.strongRecOn with
  | _ b ih =>
    intro h hb
    by_cases e : a = b
    · rw [e]; exact Rch.refl b
    · have hle := D.anc_le h hb
      have hp := D.plt b (by omega) hb
      exact (ih (p b) hp (h.up e) (by omega)).step ⟨D.pe b (by omega) hb, by omega⟩

/-- down the tree, past a node that is not above the goal -/
theorem Dfs.past (D : Dfs N E p) {d : Nat} : ∀ {b : Nat}, ¬ Anc p d b → b < N → Rch (fun x y => E x y ∧ y ≠ d) 0 b := by
  intro b
  induction b using Nat.strongRecOn with
  | _ b ih =>
    intro h hb
    by_cases e : b = 0
    · subst e; exact Rch.refl 0
    · have hp := D.plt b (by omega) hb
      refine (ih (p b) hp (fun k => h (k.trans (Anc.par p b))) (by omega)).step ⟨D.pe b (by omega) hb, ?_⟩
      intro e'
      subst e'
      exact h (Anc.refl p b)

/-! ### semidominators -/
/-- a way from v to w all whose inner nodes are greater than w -/
def Sd (E : Nat → Nat → Prop) (v w : Nat) : Prop := ∃ y, Rch (fun x z => E x z ∧ w < z) v y ∧ E y w

theorem Sd.edge {v w : Nat} (e : E v w) : Sd E v w := ⟨v, Rch.refl v, e⟩

/-- a way to m, down to y, and back to z below m -/
theorem Dfs.sd_back (D : Dfs N E p) {x m y z : Nat} (h : Sd E x m) (ha : Anc p m y) (hy : y < N) (e : E y z) (hz : z < m) : Sd E x z := by
  obtain ⟨y', h1, e1⟩ := h
  refine ⟨y, ?_, e⟩
  refine (Rch.mono (fun a b h => ⟨h.1, by omega⟩) h1).trans ((Rch.one ⟨e1, hz⟩).trans (Rch.mono (fun a b h => ⟨h.1, by omega⟩) (D.down ha hy)))

/-- a way from v over nodes greater than w: above each of them is one that is had from v by a semi-way -/
theorem Dfs.sd_claim (D : Dfs N E p) {v w y : Nat} (h : Rch (fun x z => E x z ∧ w < z) v y) (hy : y ≠ v) : ∃ m, w < m ∧ m ≤ y ∧ Anc p m y ∧ Sd E v m := by
  have := h (fun y => y = v ∨ (y < N ∧ ∃ m, w < m ∧ m ≤ y ∧ Anc p m y ∧ Sd E v m)) (.inl rfl) ?_
  · rcases this with rfl | ⟨_, h⟩
    · exact absurd rfl hy
    · exact h
  · rintro x z hx ⟨e, hz⟩
    right
    have hb := D.bd x z e
    refine ⟨hb.2, ?_⟩
    rcases hx with rfl | ⟨hxN, m, h1, h2, h3, h4⟩
    · exact ⟨z, hz, Nat.le_refl _, Anc.refl p z, Sd.edge e⟩
    · by_cases c : x < z
      · exact ⟨m, h1, by omega, h3.trans (D.fwd x z e c), h4⟩
      · by_cases c2 : m ≤ z
        · exact ⟨m, h1, c2, D.anc_mid h3 c2 (by omega) hxN, h4⟩
        · exact ⟨z, hz, Nat.le_refl _, Anc.refl p z, D.sd_back h4 h3 hxN e (by omega)⟩

/-- a way from the start past a, to a node greater than a -/
theorem Dfs.past_claim (D : Dfs N E p) {a z : Nat} (h0 : 0 ≠ a) (hN : 0 < N) (h : Rch (fun x y => E x y ∧ y ≠ a) 0 z) (hz : a < z) : ∃ x m, x < a ∧ a < m ∧ m ≤ z ∧ Anc p m z ∧ Sd E x m := by
  have := h (fun z => z < N ∧ z ≠ a ∧ (a < z → ∃ x m, x < a ∧ a < m ∧ m ≤ z ∧ Anc p m z ∧ Sd E x m)) ⟨hN, h0, fun h => by omega⟩ ?_
  · exact this.2.2 hz
  · rintro y z ⟨hyN, hya, hy⟩ ⟨e, hza⟩
    have hb := D.bd y z e
    refine ⟨hb.2, hza, fun haz => ?_⟩
    by_cases c : y < a
    · exact ⟨y, z, c, haz, Nat.le_refl _, Anc.refl p z, Sd.edge e⟩
    · obtain ⟨x, m, h1, h2, h3, h4, h5⟩ := hy (by omega)
      by_cases c1 : y < z
      · exact ⟨x, m, h1, h2, by omega, h4.trans (D.fwd y z e c1), h5⟩
      · by_cases c2 : m ≤ z
        · exact ⟨x, m, h1, h2, c2, D.anc_mid h4 c2 (by omega) hyN, h5⟩
        · exact ⟨x, z, h1, haz, Nat.le_refl _, Anc.refl p z, D.sd_back h5 h4 hyN e (by omega)⟩

/-- s is the semidominator of each node but the first -/
def Semi (N : Nat) (E : Nat → Nat → Prop) (s : Nat → Nat) : Prop :=
  ∀ w, 0 < w → w < N → s w < w ∧ Sd E (s w) w ∧ ∀ v, v < w → Sd E v w → s w ≤ v

theorem least (P : Nat → Prop) : ∀ n, P n → ∃ m, P m ∧ ∀ k, P k → m ≤ k := by
  intro n
  induction n using Nat.strongRecOn with
  | _ n ih =>
    intro h
    by_cases c : ∃ k, k < n ∧ P k
    · obtain ⟨k, hk, hP⟩ := c
      exact ih k hk hP
    · refine ⟨n, h, fun k hk => ?_⟩
      rcases Nat.lt_or_ge k n with h1 | h1
      · exact absurd ⟨k, h1, hk⟩ c
      · exact h1

theorem Dfs.semi (D : Dfs N E p) : ∃ s, Semi N E s := by
  have : ∀ w, ∃ m, 0 < w → w < N → (m < w ∧ Sd E m w) ∧ ∀ k, (k < w ∧ Sd E k w) → m ≤ k := by
    intro w
    by_cases h : 0 < w ∧ w < N
    · obtain ⟨m, h1, h2⟩ := least (fun k => k < w ∧ Sd E k w) (p w) ⟨D.plt w h.1 h.2, Sd.edge (D.pe w h.1 h.2)⟩
      exact ⟨m, fun _ _ => ⟨h1, h2⟩⟩
    · exact ⟨0, fun h1 h2 => absurd ⟨h1, h2⟩ h⟩
  refine ⟨fun w => Classical.choose (this w), fun w h1 h2 => ?_⟩
  obtain ⟨h3, h4⟩ := Classical.choose_spec (this w) h1 h2
  exact ⟨h3.1, h3.2, fun v hv hs => h4 v ⟨hv, hs⟩⟩

variable {s : Nat → Nat}

/-- the semidominator is above the node -/
theorem Dfs.semi_anc (D : Dfs N E p) (hs : Semi N E s) {w : Nat} (h0 : 0 < w) (hw : w < N) : Anc p (s w) w := by
  obtain ⟨h1, ⟨y, h2, e⟩, _⟩ := hs w h0 hw
  exact (D.stay (by omega) ((Rch.mono (fun a b h => ⟨h.1, by omega⟩) h2).step ⟨e, by omega⟩)).1

/-- no way into w gives less: from an edge whose start is not greater than w -/
theorem semi_le_edge (hs : Semi N E s) {v w : Nat} (h0 : 0 < w) (hw : w < N) (e : E v w) : s w ≤ v := by
  obtain ⟨h1, _, h3⟩ := hs w h0 hw
  rcases Nat.lt_or_ge v w with h | h
  · exact h3 v h (Sd.edge e)
  · omega

/-- .. from an edge whose start lies under u, u greater than w -/
theorem Dfs.semi_le_up (D : Dfs N E p) (hs : Semi N E s) {u v w : Nat} (h0 : 0 < w) (e : E v w) (hu : w < u) (ha : Anc p u v) : s w ≤ s u := by
  have hb := D.bd v w e
  have huN : u < N := Nat.lt_of_le_of_lt (D.anc_le ha hb.1) hb.1
  obtain ⟨h1, _, h3⟩ := hs w h0 hb.2
  obtain ⟨g1, g2, _⟩ := hs u (by omega) huN
  rcases Nat.lt_or_ge (s u) w with h | h
  · exact h3 _ h (D.sd_back g2 ha hb.1 e hu)
  · omega

/-- and it is had by one of them -/
theorem Dfs.semi_had (D : Dfs N E p) (hs : Semi N E s) {w : Nat} (h0 : 0 < w) (hw : w < N) : E (s w) w ∨ ∃ v u, E v w ∧ w < v ∧ w < u ∧ Anc p u v ∧ s u ≤ s w := by
  obtain ⟨h1, ⟨y, h2, e⟩, _⟩ := hs w h0 hw
  by_cases c : y = s w
  · left; rw [← c]; exact e
  · right
    obtain ⟨m, g1, g2, g3, g4⟩ := D.sd_claim h2 c
    have hb := D.bd y w e
    obtain ⟨_, _, f3⟩ := hs m (by omega) (by omega)
    exact ⟨y, m, e, by omega, g1, g3, f3 _ (by omega) g4⟩

/-! ### dominators -/
/-- w is reached from 0 past d -/
def RA (E : Nat → Nat → Prop) (d w : Nat) : Prop := 0 ≠ d ∧ Rch (fun x y => E x y ∧ y ≠ d) 0 w
/-- every way from 0 to w goes over d -/
def Dom (E : Nat → Nat → Prop) (d w : Nat) : Prop := ¬ RA E d w

theorem Dfs.dom_anc (D : Dfs N E p) {d w : Nat} (h : Dom E d w) (hw : w < N) : Anc p d w := by
  by_cases c : Anc p d w
  · exact c
  · have h0 : 0 ≠ d := by intro e; subst e; exact c (D.anc_zero hw)
    exact absurd ⟨h0, D.past c hw⟩ h

/-- a strict dominator of w dominates the semidominator -/
theorem Dfs.dom_semi (D : Dfs N E p) (hs : Semi N E s) {d w : Nat} (h0 : 0 < w) (hw : w < N) (h : Dom E d w) (hne : d ≠ w) : Dom E d (s w) := by
  intro ⟨g0, g1⟩
  have hd := D.anc_le (D.dom_anc h hw) hw
  obtain ⟨h1, ⟨y, h2, e⟩, _⟩ := hs w h0 hw
  exact h ⟨g0, (g1.trans (Rch.mono (fun a b h => ⟨h.1, by omega⟩) h2)).step ⟨e, by omega⟩⟩

/-- b is the immediate dominator of w -/
def Idom (E : Nat → Nat → Prop) (b w : Nat) : Prop := Dom E b w ∧ b ≠ w ∧ ∀ d, Dom E d w → d ≠ w → Dom E d b

/-- THE FIRST THEOREM: where no node between the semidominator and w has a lesser one -/
theorem Dfs.case1 (D : Dfs N E p) (hs : Semi N E s) {w : Nat} (h0 : 0 < w) (hw : w < N)
    (hmin : ∀ u, Anc p u w → s w < u → s w ≤ s u) : Idom E (s w) w := by
  obtain ⟨h1, _, _⟩ := hs w h0 hw
  refine ⟨?_, by omega, fun d hd hne => D.dom_semi hs h0 hw hd hne⟩
  rintro ⟨g0, g1⟩
  obtain ⟨x, m, k1, k2, k3, k4, k5⟩ := D.past_claim g0 (by omega) g1 h1
  obtain ⟨_, _, f3⟩ := hs m (by omega) (by omega)
  have := f3 x (by omega) k5
  have := hmin m k4 k2
  omega

/-- THE SECOND: where u, between the semidominator and w, has the least semidominator, and it is less than w's: w's immediate dominator is u's -/
theorem Dfs.case2 (D : Dfs N E p) (hs : Semi N E s) {w u b : Nat} (h0 : 0 < w) (hw : w < N) (hu : Anc p u w) (hsu : s w < u)
    (hmin : ∀ u', Anc p u' w → s w < u' → s u ≤ s u') (hlt : s u < s w) (hb : Idom E b u) : Idom E b w := by
  obtain ⟨h1, _, _⟩ := hs w h0 hw
  have hule := D.anc_le hu hw
  have huN : u < N := by omega
  obtain ⟨u1, u2, u3⟩ := hs u (by omega) huN
  have hbs : Dom E b (s u) := D.dom_semi hs (by omega) huN hb.1 hb.2.1
  have hble : b ≤ s u := D.anc_le (D.dom_anc hbs (by omega)) (by omega)
  refine ⟨?_, by omega, fun d hd hne => ?_⟩
  · rintro ⟨g0, g1⟩
    obtain ⟨x, m, k1, k2, k3, k4, k5⟩ := D.past_claim g0 (by omega) g1 (by omega)
    obtain ⟨_, _, f3⟩ := hs m (by omega) (by omega)
    have f4 := f3 x (by omega) k5
    rcases Nat.lt_or_ge (s w) m with c | c
    · have := hmin m k4 c
      omega
    · have hmu : Anc p m u := D.anc_cmp k4 hu hw (by omega)
      refine hb.1 ⟨g0, ?_⟩
      obtain ⟨y, q1, q2⟩ := k5
      have hx : Rch (fun x y => E x y ∧ y ≠ b) 0 x := D.past (fun k => by have := D.anc_le k (by omega); omega) (by omega)
      exact (hx.trans (Rch.mono (fun a c h => ⟨h.1, by omega⟩) q1)).trans ((Rch.one ⟨q2, by omega⟩).trans (Rch.mono (fun a c h => ⟨h.1, by omega⟩) (D.down hmu huN)))
  · have hds := D.dom_semi hs h0 hw hd hne
    have hdle : d ≤ s w := D.anc_le (D.dom_anc hds (by omega)) (by omega)
    refine hb.2.2 d ?_ (by omega)
    rintro ⟨g0, g1⟩
    exact hd ⟨g0, g1.trans (Rch.mono (fun a c h => ⟨h.1, by omega⟩) (D.down hu hw))⟩

end
end Go.Proofs.Ybulkexnju.G
