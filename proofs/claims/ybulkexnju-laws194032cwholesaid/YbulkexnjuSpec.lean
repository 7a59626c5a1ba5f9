/-
  PLAIN MATHEMATICS, NO Go IN SIGHT: which slots are watched, said of instructions; that the walk down the tree of dominators of the blocks finds just those.
-/
import Derived.Test.YbulkexnjuTree
namespace Go.Proofs.Ybulkexnju.G

/-- what 'dominators' hands back of the graph of B nodes whose edges are sc: K nodes are reached, ord k is number k, I k the number of its immediate dominator -/
structure DomOut (NB : Nat) (sc : Nat → Int) (K : Nat) (ord I : Nat → Nat) : Prop where
  k1 : 1 ≤ K
  kN : K ≤ NB
  o0 : ord 0 = 0
  oN : ∀ k, k < K → ord k < NB
  inj : ∀ a b, a < K → b < K → ord a = ord b → a = b
  cl : ∀ k w : Nat, k < K → Edge sc (ord k) w → ∃ m, m < K ∧ ord m = w
  doms : ∃ p, Doms K (EN sc ord K) p I

theorem DInv.out {NB : Nat} {sc num : Nat → Int} {ord par tv tj I : Nat → Nat} {K : Nat} (h : DInv NB sc num ord par K 0 tv tj) (hsc : ∀ e, e < 2 * NB → ∀ w : Nat, sc e = w → w < NB)
    (i0 : I 0 = 0) (hI : ∀ k, 0 < k → k < K → I k < k ∧ Idom (EN sc ord K) (I k) k) : DomOut NB sc K ord I := by
  refine ⟨h.k1, h.kN, h.o0, fun k hk => (h.oN k hk).1, ?_, ?_, par, h.dfs, i0, fun k h0 hk => (hI k h0 hk).1, fun k h0 hk => (hI k h0 hk).2⟩
  · intro a b ha hb e
    have h1 := (h.oN a ha).2
    have h2 := (h.oN b hb).2
    rw [e] at h1
    omega
  · rintro k w hk ⟨j, hj, e⟩
    obtain ⟨m, m1, m2⟩ := h.closed hk hj e
    have hb := (h.oN k hk).1
    have hw := hsc _ (by omega) w e
    obtain ⟨k', k1, k2, k3⟩ := h.nO w hw (by omega)
    exact ⟨k', k1, k3⟩

section
variable {n : Nat} {kd tg : Nat → Nat} {ld : Nat → Bool} {st : Nat → Nat} {sc : Nat → Int} {K : Nat} {ord I : Nat → Nat}

theorem DomOut.ra (h : DomOut (cb ld n) sc K ord I) {m k : Nat} (hm : m < K) (hk : k < K) : RA (EN sc ord K) m k ↔ RA (EB ld n sc) (ord m) (ord k) := by
  have hk1 := h.k1
  have h0 : 0 ≠ m ↔ 0 ≠ ord m := by
    constructor
    · intro e e2
      exact e (h.inj 0 m (by omega) hm (by rw [h.o0]; exact e2))
    · intro e e2
      subst e2
      exact e h.o0.symm
  constructor
  · rintro ⟨g0, g1⟩
    refine ⟨h0.1 g0, ?_⟩
    have := g1 (fun z => z < K ∧ Rch (fun x y => EB ld n sc x y ∧ y ≠ ord m) 0 (ord z)) ⟨by omega, by rw [h.o0]; exact Rch.refl 0⟩ ?_
    · exact this.2
    · rintro x y ⟨hx, hr⟩ ⟨⟨_, hy, e⟩, hne⟩
      exact ⟨hy, hr.step ⟨⟨h.oN x hx, h.oN y hy, e⟩, fun e2 => hne (h.inj y m hy hm e2)⟩⟩
  · rintro ⟨g0, g1⟩
    refine ⟨h0.2 g0, ?_⟩
    obtain ⟨z, z1, z2, z3⟩ := g1 (fun b => ∃ z, z < K ∧ ord z = b ∧ Rch (fun x y => EN sc ord K x y ∧ y ≠ m) 0 z) ⟨0, by omega, h.o0, Rch.refl 0⟩ (by
      rintro x y ⟨z, z1, z2, z3⟩ ⟨⟨_, _, e⟩, hne⟩
      rw [← z2] at e
      obtain ⟨y', y1, y2⟩ := h.cl z y z1 e
      rw [← y2] at e
      exact ⟨y', y1, y2, z3.step ⟨⟨z1, y1, e⟩, fun e2 => hne (by rw [← y2, e2])⟩⟩)
    rw [← h.inj z k z1 hk z2]
    exact z3

theorem DomOut.reach (h : DomOut (cb ld n) sc K ord I) {b : Nat} : Rch (EB ld n sc) 0 b ↔ ∃ k, k < K ∧ ord k = b := by
  have hk1 := h.k1
  constructor
  · intro hr
    refine hr (fun b => ∃ k, k < K ∧ ord k = b) ⟨0, by omega, h.o0⟩ ?_
    rintro x y ⟨z, z1, z2⟩ ⟨_, _, e⟩
    rw [← z2] at e
    exact h.cl z y z1 e
  · rintro ⟨k, k1, rfl⟩
    obtain ⟨p, hp⟩ := h.doms
    have := hp.dfs.down (hp.dfs.anc_zero k1) k1
    have := this (fun z => z < K ∧ Rch (EB ld n sc) 0 (ord z)) ⟨by omega, by rw [h.o0]; exact Rch.refl 0⟩ ?_
    · exact this.2
    · rintro x y ⟨hx, hr⟩ ⟨⟨_, hy, e⟩, _⟩
      exact ⟨hy, hr.step ⟨h.oN x hx, h.oN y hy, e⟩⟩

/-- whoever dominates a node that is reached is reached -/
theorem DomOut.dom_ord (h : DomOut (cb ld n) sc K ord I) {c k : Nat} (hk : k < K) (hd : Dom (EB ld n sc) c (ord k)) : ∃ m, m < K ∧ ord m = c := by
  by_cases e : ∃ m, m < K ∧ ord m = c
  · exact e
  · exfalso
    have hk1 := h.k1
    obtain ⟨p, hp⟩ := h.doms
    refine hd ⟨fun e2 => e ⟨0, by omega, by rw [h.o0]; exact e2⟩, ?_⟩
    have := hp.dfs.down (hp.dfs.anc_zero hk) hk
    have := this (fun z => z < K ∧ Rch (fun x y => EB ld n sc x y ∧ y ≠ c) 0 (ord z)) ⟨by omega, by rw [h.o0]; exact Rch.refl 0⟩ ?_
    · exact this.2
    · rintro x y ⟨hx, hr⟩ ⟨⟨_, hy, e3⟩, _⟩
      exact ⟨hy, hr.step ⟨⟨h.oN x hx, h.oN y hy, e3⟩, fun e2 => e ⟨y, hy, e2⟩⟩⟩

/-- slot x is watched: some instruction that is reached reads it, and no other that sets it dominates that one -/
def Watched (n : Nat) (E : Nat → Nat → Prop) (rd sg : Nat → Bool) (xv : Nat → Nat) (np x : Nat) : Prop :=
  ∃ i, i < n ∧ Rch E 0 i ∧ rd i = true ∧ xv i = x ∧ np ≤ x ∧ ¬ ∃ j, j < n ∧ j ≠ i ∧ sg j = true ∧ xv j = x ∧ Dom E j i

/-- what the walk sees at instruction i of the block numbered k: the slot is not set -/
def Unset (E : Nat → Nat → Prop) (st ord : Nat → Nat) (sg : Nat → Bool) (xv : Nat → Nat) (np k i : Nat) : Prop :=
  np ≤ xv i ∧ (∀ j, st (ord k) ≤ j → j < i → ¬ (sg j = true ∧ xv j = xv i)) ∧ ∀ m, sd E m k → ∀ j, st (ord m) ≤ j → j < st (ord m + 1) → ¬ (sg j = true ∧ xv j = xv i)

theorem unset_iff (h : Made n kd tg ld st sc) (hd : DomOut (cb ld n) sc K ord I) {sg : Nat → Bool} {xv : Nat → Nat} {np k i : Nat} (hk : k < K) (h1 : st (ord k) ≤ i) (h2 : i < st (ord k + 1)) :
    Unset (EN sc ord K) st ord sg xv np k i ↔ np ≤ xv i ∧ ¬ ∃ j, j < n ∧ j ≠ i ∧ sg j = true ∧ xv j = xv i ∧ Dom (EI n kd tg) j i := by
  have hb := h.blocks
  have hB : 0 < cb ld n := by have := hd.k1; have := hd.kN; omega
  have hi := h.own (hd.oN k hk) h1 h2
  have hr : Rch (EI n kd tg) 0 i := (hb.reach hB h.n0 hi.1).2 (by
    show Rch (EB ld n sc) 0 (cb ld (i + 1) - 1)
    rw [hi.2]; exact hd.reach.2 ⟨k, hk, rfl⟩)
  have dom : ∀ j, j < n → j ≠ i → (Dom (EI n kd tg) j i ↔ (cb ld (j + 1) - 1 = ord k ∧ j < i) ∨ (cb ld (j + 1) - 1 ≠ ord k ∧ Dom (EB ld n sc) (cb ld (j + 1) - 1) (ord k))) := by
    intro j hj hne
    have := hb.dom hB hi.1 hj hne hr
    rw [hi.2] at this
    exact this
  unfold Unset
  constructor
  · rintro ⟨g1, g2, g3⟩
    refine ⟨g1, ?_⟩
    rintro ⟨j, j1, j2, j3, j4, j5⟩
    have hjb := h.bd j1
    rcases (dom j j1 j2).1 j5 with ⟨e1, e2⟩ | ⟨e1, e2⟩
    · rw [e1] at hjb
      exact g2 j hjb.2.1 e2 ⟨j3, j4⟩
    · obtain ⟨m, m1, m2⟩ := hd.dom_ord hk e2
      rw [← m2] at hjb e1 e2
      exact g3 m ⟨fun e => e1 (by rw [e]), fun hra => e2 ((hd.ra m1 hk).1 hra)⟩ j hjb.2.1 hjb.2.2 ⟨j3, j4⟩
  · rintro ⟨g1, g2⟩
    refine ⟨g1, fun j j1 j2 hj => ?_, fun m hm j j1 j2 hj => ?_⟩
    · have ho := h.own (hd.oN k hk) j1 (by omega)
      exact g2 ⟨j, ho.1, by omega, hj.1, hj.2, (dom j ho.1 (by omega)).2 (.inl ⟨ho.2, j2⟩)⟩
    · obtain ⟨p, hp⟩ := hd.doms
      have hmk := hp.sd_lt hk hm
      have ho := h.own (hd.oN m (by omega)) j1 j2
      have hne : ord m ≠ ord k := fun e => hm.1 (hd.inj m k (by omega) hk e)
      have hji : j ≠ i := by
        intro e
        rw [e, hi.2] at ho
        exact hne ho.2.symm
      refine g2 ⟨j, ho.1, hji, hj.1, hj.2, (dom j ho.1 hji).2 (.inr ?_)⟩
      rw [ho.2]
      exact ⟨hne, fun hra => hm.2 ((hd.ra (by omega) hk).2 hra)⟩

/-- THE WALK FINDS JUST THE SLOTS THAT ARE WATCHED -/
theorem watched_iff (h : Made n kd tg ld st sc) (hd : DomOut (cb ld n) sc K ord I) {rd sg : Nat → Bool} {xv : Nat → Nat} {np x : Nat} :
    (∃ k, k < K ∧ ∃ i, st (ord k) ≤ i ∧ i < st (ord k + 1) ∧ rd i = true ∧ xv i = x ∧ Unset (EN sc ord K) st ord sg xv np k i) ↔ Watched n (EI n kd tg) rd sg xv np x := by
  have hb := h.blocks
  have hB : 0 < cb ld n := by have := hd.k1; have := hd.kN; omega
  constructor
  · rintro ⟨k, hk, i, h1, h2, h3, h4, h5⟩
    have hi := h.own (hd.oN k hk) h1 h2
    rw [unset_iff h hd hk h1 h2, h4] at h5
    refine ⟨i, hi.1, (hb.reach hB h.n0 hi.1).2 ?_, h3, h4, h5⟩
    show Rch (EB ld n sc) 0 (cb ld (i + 1) - 1)
    rw [hi.2]; exact hd.reach.2 ⟨k, hk, rfl⟩
  · rintro ⟨i, h1, h2, h3, h4, h5⟩
    have hr := (hb.reach hB h.n0 h1).1 h2
    obtain ⟨k, hk, ek⟩ := hd.reach.1 hr
    have hbd := h.bd h1
    have ek' : ord k = cb ld (i + 1) - 1 := ek
    rw [← ek'] at hbd
    refine ⟨k, hk, i, hbd.2.1, hbd.2.2, h3, h4, (unset_iff h hd hk hbd.2.1 hbd.2.2).2 ?_⟩
    rw [h4]; exact h5

/-! ### the counts -/
/-- the instructions that set slot x -/
def sx (sg : Nat → Bool) (xv : Nat → Nat) (x j : Nat) : Bool := sg j && decide (xv j = x)

theorem sx_iff {sg : Nat → Bool} {xv : Nat → Nat} {x j : Nat} : sx sg xv x j = true ↔ sg j = true ∧ xv j = x := by simp [sx]

/-- how many of a list of numbers' blocks' instructions set slot x -/
def sumO (st ord : Nat → Nat) (sg : Nat → Bool) (xv : Nat → Nat) (x : Nat) : List Nat → Nat
  | [] => 0
  | m :: O => (cb (sx sg xv x) (st (ord m + 1)) - cb (sx sg xv x) (st (ord m))) + sumO st ord sg xv x O

theorem range_zero {sg : Nat → Bool} {xv : Nat → Nat} {x a b : Nat} (hab : a ≤ b) : cb (sx sg xv x) b - cb (sx sg xv x) a = 0 ↔ ∀ j, a ≤ j → j < b → ¬ (sg j = true ∧ xv j = x) := by
  have hm := cb_mono (sx sg xv x) hab
  have := cb_none (P := sx sg xv x) hab
  constructor
  · intro h j h1 h2 h3
    have h4 := this.1 (by omega) j h1 h2
    rw [sx_iff.2 h3] at h4; cases h4
  · intro h
    have := this.2 (fun j h1 h2 => by
      cases hc : sx sg xv x j with
      | false => rfl
      | true => exact absurd (sx_iff.1 hc) (h j h1 h2))
    omega

theorem sumO_zero {sg : Nat → Bool} {xv : Nat → Nat} {x : Nat} : ∀ {O : List Nat}, (∀ m, m ∈ O → st (ord m) ≤ st (ord m + 1)) → (sumO st ord sg xv x O = 0 ↔ ∀ m, m ∈ O → ∀ j, st (ord m) ≤ j → j < st (ord m + 1) → ¬ (sg j = true ∧ xv j = x)) := by
  intro O
  induction O with
  | nil => intro _; exact ⟨fun _ m hm => (by cases hm), fun _ => rfl⟩
  | cons a O ih =>
    intro hle
    have ih := ih (fun m hm => hle m (List.mem_cons_of_mem _ hm))
    have ha := range_zero (sg := sg) (xv := xv) (x := x) (hle a List.mem_cons_self)
    simp only [sumO]
    constructor
    · intro h m hm
      rcases List.mem_cons.1 hm with rfl | hm
      · exact ha.1 (by omega)
      · exact ih.1 (by omega) m hm
    · intro h
      have h1 := ha.2 (h a List.mem_cons_self)
      have h2 := ih.2 (fun m hm => h m (List.mem_cons_of_mem _ hm))
      omega

/-- the count at instruction i of the block numbered k is zero just where the slot is not set -/
theorem count_zero {E : Nat → Nat → Prop} {sg : Nat → Bool} {xv : Nat → Nat} {np k i : Nat} {O : List Nat} (hO : ∀ m, m ∈ O ↔ sd E m k) (hle : ∀ m, m ∈ O → st (ord m) ≤ st (ord m + 1)) (hi : st (ord k) ≤ i) :
    (if xv i < np then 1 else 0) + sumO st ord sg xv (xv i) O + (cb (sx sg xv (xv i)) i - cb (sx sg xv (xv i)) (st (ord k))) = 0 ↔ Unset E st ord sg xv np k i := by
  have h1 := sumO_zero (sg := sg) (xv := xv) (x := xv i) hle
  have h2 := range_zero (sg := sg) (xv := xv) (x := xv i) hi
  unfold Unset
  constructor
  · intro h
    refine ⟨?_, h2.1 (by omega), fun m hm => h1.1 (by omega) m ((hO m).2 hm)⟩
    by_cases c : xv i < np
    · rw [if_pos c] at h; omega
    · omega
  · rintro ⟨g1, g2, g3⟩
    have e1 := h1.2 (fun m hm => g3 m ((hO m).1 hm))
    have e2 := h2.2 g2
    rw [if_neg (by omega)]
    omega
end
end Go.Proofs.Ybulkexnju.G
