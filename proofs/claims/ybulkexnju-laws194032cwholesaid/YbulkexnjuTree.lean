/-
  PLAIN MATHEMATICS, NO Go IN SIGHT: the walk down the tree of dominators with a stack of blocks to do (k) and to take back (-k-1).
-/
import Derived.Test.YbulkexnjuCode
namespace Go.Proofs.Ybulkexnju.G

/-- dominance is transitive -/
theorem Dom.trans {E : Nat → Nat → Prop} {a b c : Nat} (h1 : Dom E a b) (h2 : Dom E b c) : Dom E a c := by
  rintro ⟨h0, hr⟩
  by_cases hb : 0 = b
  · subst hb; exact h1 ⟨h0, Rch.refl 0⟩
  · have := hr (fun z => Rch (fun x y => E x y ∧ y ≠ a) 0 z ∧ (RA E a b ∨ Rch (fun x y => E x y ∧ y ≠ b) 0 z)) ⟨Rch.refl 0, .inr (Rch.refl 0)⟩ ?_
    · rcases this.2 with h | h
      · exact h1 h
      · exact h2 ⟨hb, h⟩
    · rintro x y ⟨g1, g2⟩ ⟨e, hy⟩
      refine ⟨g1.step ⟨e, hy⟩, ?_⟩
      rcases g2 with g2 | g2
      · exact .inl g2
      · by_cases c : y = b
        · subst c; exact .inl ⟨h0, g1.step ⟨e, hy⟩⟩
        · exact .inr (g2.step ⟨e, c⟩)

/-- a strict dominator -/
def sd (E : Nat → Nat → Prop) (m k : Nat) : Prop := m ≠ k ∧ Dom E m k

theorem sd_zero {E : Nat → Nat → Prop} {m : Nat} (h : sd E m 0) : False := h.2 ⟨fun e => h.1 e.symm, Rch.refl 0⟩

/-- I is the immediate dominator of each number but the first -/
structure Doms (K : Nat) (E : Nat → Nat → Prop) (p I : Nat → Nat) : Prop where
  dfs : Dfs K E p
  i0 : I 0 = 0
  ilt : ∀ k, 0 < k → k < K → I k < k
  idom : ∀ k, 0 < k → k < K → Idom E (I k) k

section
variable {K : Nat} {E : Nat → Nat → Prop} {p I : Nat → Nat}

theorem Doms.sd_iff (h : Doms K E p I) {m k : Nat} (h0 : 0 < k) (hk : k < K) : sd E m k ↔ m = I k ∨ sd E m (I k) := by
  obtain ⟨h1, h2, h3⟩ := h.idom k h0 hk
  have hlt := h.ilt k h0 hk
  constructor
  · rintro ⟨g1, g2⟩
    by_cases c : m = I k
    · exact .inl c
    · exact .inr ⟨c, h3 m g2 g1⟩
  · rintro (rfl | ⟨g1, g2⟩)
    · exact ⟨h2, h1⟩
    · have := h.dfs.anc_le (h.dfs.dom_anc g2 (by omega)) (by omega)
      exact ⟨by omega, g2.trans h1⟩

theorem Doms.sd_lt (h : Doms K E p I) {m k : Nat} (hk : k < K) (hs : sd E m k) : m < k := by
  have := h.dfs.anc_le (h.dfs.dom_anc hs.2 hk) hk
  have := hs.1
  omega

/-- the child of x on the way down to v -/
theorem Doms.child (h : Doms K E p I) {x : Nat} : ∀ {v : Nat}, Anc I x v → x ≠ v → v < K → ∃ c, 0 < c ∧ c < K ∧ I c = x ∧ Anc I c v := by
  intro v
  induction v using Nat.strongRecOn with
  | _ v ih =>
    intro ha hne hv
    have h0 : 0 < v := by
      rcases Nat.eq_zero_or_pos v with e | e
      · subst e
        obtain ⟨k, hk⟩ := ha
        have : ∀ k, iter I k 0 = 0 := by
          intro k
          induction k with
          | zero => rfl
          | succ k ihk => show iter I k (I 0) = 0; rw [h.i0]; exact ihk
        rw [this] at hk
        exact absurd hk.symm hne
      · exact e
    have hp := h.ilt v h0 hv
    by_cases e : I v = x
    · exact ⟨v, h0, hv, e, Anc.refl I v⟩
    · obtain ⟨c, h1, h2, h3, h4⟩ := ih (I v) hp (ha.up hne) (fun e2 => e e2.symm) (by omega)
      exact ⟨c, h1, h2, h3, h4.trans (Anc.par I v)⟩

theorem Doms.anc_zero (h : Doms K E p I) : ∀ {b : Nat}, b < K → Anc I 0 b := by
  intro b
  induction b using Nat.strongRecOn with
  | _ b ih =>
    intro hb
    by_cases c : 0 < b
    · have h1 := h.ilt b c hb
      exact (ih (I b) h1 (by omega)).trans (Anc.par I b)
    · obtain rfl : b = 0 := by omega
      exact Anc.refl I 0

/-- the blocks that are open: those to be taken back -/
def opens : List Int → List Nat
  | [] => []
  | e :: t => if e < 0 then (-e - 1).toNat :: opens t else opens t

theorem opens_neg (k : Nat) (t : List Int) : opens ((-(k : Int) - 1) :: t) = k :: opens t := by
  simp only [opens]
  rw [if_pos (by omega), show (-(-(k : Int) - 1) - 1).toNat = k by omega]
theorem opens_pos {e : Int} (h : 0 ≤ e) (t : List Int) : opens (e :: t) = opens t := by
  simp only [opens]; rw [if_neg (by omega)]
theorem opens_app {l : List Int} (h : ∀ e, e ∈ l → 0 ≤ e) (t : List Int) : opens (l ++ t) = opens t := by
  induction l with
  | nil => rfl
  | cons e l ih =>
    rw [List.cons_append, opens_pos (h e List.mem_cons_self)]
    exact ih (fun e he => h e (List.mem_cons_of_mem _ he))

/-- beneath each block that is to be done, those are open that dominate it strictly -/
def SOK (E : Nat → Nat → Prop) : List Int → Prop
  | [] => True
  | e :: t => (∀ k : Nat, e = k → ∀ m, m ∈ opens t ↔ sd E m k) ∧ SOK E t

theorem SOK.app {l t : List Int} (hl : ∀ e, e ∈ l → ∃ k : Nat, e = k ∧ ∀ m, m ∈ opens t ↔ sd E m k) (ht : SOK E t) : SOK E (l ++ t) := by
  induction l with
  | nil => exact ht
  | cons e l ih =>
    refine ⟨fun k hk m => ?_, ih (fun e he => hl e (List.mem_cons_of_mem _ he))⟩
    obtain ⟨k', h1, h2⟩ := hl e List.mem_cons_self
    obtain rfl : k = k' := by omega
    rw [← h2 m]
    show m ∈ opens (l ++ t) ↔ m ∈ opens t
    rw [opens_app]
    intro x hx
    obtain ⟨k'', h3, _⟩ := hl x (List.mem_cons_of_mem _ hx)
    omega

/-- the walk's invariant: T is the stack, its top first; 'vis' are the blocks that have been begun -/
structure TInv (K : Nat) (E : Nat → Nat → Prop) (I : Nat → Nat) (vis : Nat → Bool) (T : List Int) : Prop where
  ok : SOK E T
  nd : T.Nodup
  pend : ∀ k : Nat, (k : Int) ∈ T → k < K ∧ vis k = false ∧ (k = 0 ∨ vis (I k) = true)
  opn : ∀ e, e ∈ T → e < 0 → ∃ m : Nat, e = -(m : Int) - 1 ∧ m < K ∧ vis m = true
  vid : ∀ k, k < K → vis k = true → k = 0 ∨ vis (I k) = true
  all : ∀ k, k < K → vis k = true ∨ ∃ k' : Nat, (k' : Int) ∈ T ∧ Anc I k' k

theorem TInv.start (h : Doms K E p I) (hK : 0 < K) {vis : Nat → Bool} (hv : ∀ k, vis k = false) : TInv K E I vis [0] := by
  refine ⟨⟨fun k hk m => ?_, True.intro⟩, ?_, ?_, ?_, ?_, ?_⟩
  · obtain rfl : k = 0 := by omega
    constructor
    · intro hm; cases hm
    · intro hm; exact (sd_zero hm).elim
  · simp
  · intro k hk
    have : (k : Int) = 0 := by simpa using hk
    exact ⟨by omega, hv k, .inl (by omega)⟩
  · intro e he hlt
    have : e = 0 := by simpa using he
    omega
  · intro k _ hk; rw [hv k] at hk; cases hk
  · intro k hk
    exact .inr ⟨0, by simp, h.anc_zero hk⟩

/-- a block is taken back -/
theorem TInv.undo {vis : Nat → Bool} {e : Int} {t : List Int} (he : e < 0) (h : TInv K E I vis (e :: t)) : TInv K E I vis t := by
  refine ⟨h.ok.2, (List.nodup_cons.1 h.nd).2, fun k hk => h.pend k (List.mem_cons_of_mem _ hk), fun x hx => h.opn x (List.mem_cons_of_mem _ hx), h.vid, fun k hk => ?_⟩
  rcases h.all k hk with h1 | ⟨k', h1, h2⟩
  · exact .inl h1
  · rcases List.mem_cons.1 h1 with h3 | h3
    · omega
    · exact .inr ⟨k', h3, h2⟩

/-- a block is begun: its own entry to take it back is laid, and on top of that its children -/
theorem TInv.visit (h : Doms K E p I) {vis : Nat → Bool} {k : Nat} {t kids : List Int} (hT : TInv K E I vis ((k : Int) :: t))
    (hk1 : ∀ e, e ∈ kids → ∃ c : Nat, e = c ∧ 0 < c ∧ c < K ∧ I c = k) (hk2 : ∀ c : Nat, 0 < c → c < K → I c = k → (c : Int) ∈ kids) (hnd : kids.Nodup) :
    TInv K E I (upd vis k true) (kids ++ (-(k : Int) - 1) :: t) := by
  obtain ⟨p1, p2, p3⟩ := hT.pend k List.mem_cons_self
  have hnot : (k : Int) ∉ t := (List.nodup_cons.1 hT.nd).1
  have hkv : ∀ c : Nat, 0 < c → c < K → I c = k → vis c = false := by
    intro c h1 h2 h3
    by_cases c' : vis c = true
    · rcases hT.vid c h2 c' with h4 | h4
      · omega
      · rw [h3, p2] at h4; cases h4
    · simpa using c'
  have hkt : ∀ c : Nat, 0 < c → c < K → I c = k → (c : Int) ∉ t := by
    intro c h1 h2 h3 h4
    obtain ⟨_, _, q⟩ := hT.pend c (List.mem_cons_of_mem _ h4)
    rcases q with q | q
    · omega
    · rw [h3, p2] at q; cases q
  have hneg : (-(k : Int) - 1) ∉ t := by
    intro hm
    obtain ⟨m, m1, m2, m3⟩ := hT.opn _ (List.mem_cons_of_mem _ hm) (by omega)
    obtain rfl : k = m := by omega
    rw [p2] at m3; cases m3
  refine ⟨?_, ?_, ?_, ?_, ?_, ?_⟩
  · refine SOK.app (fun e he => ?_) ⟨fun k' hk' => by omega, hT.ok.2⟩
    obtain ⟨c, c1, c2, c3, c4⟩ := hk1 e he
    refine ⟨c, c1, fun m => ?_⟩
    rw [opens_neg, List.mem_cons, hT.ok.1 k rfl m, h.sd_iff c2 c3, c4]
  · refine List.nodup_append.2 ⟨hnd, List.nodup_cons.2 ⟨hneg, (List.nodup_cons.1 hT.nd).2⟩, ?_⟩
    intro a ha b hb e
    subst e
    obtain ⟨c, c1, c2, c3, c4⟩ := hk1 a ha
    rcases List.mem_cons.1 hb with h1 | h1
    · omega
    · rw [c1] at h1; exact hkt c c2 c3 c4 h1
  · intro c hc
    rcases List.mem_append.1 hc with h1 | h1
    · obtain ⟨c', c1, c2, c3, c4⟩ := hk1 _ h1
      obtain rfl : c = c' := by omega
      have := h.ilt c c2 c3
      rw [upd_other _ _ (by omega)]
      exact ⟨c3, hkv c c2 c3 c4, .inr (by rw [c4, upd_same])⟩
    · rcases List.mem_cons.1 h1 with h2 | h2
      · omega
      · obtain ⟨q1, q2, q3⟩ := hT.pend c (List.mem_cons_of_mem _ h2)
        have hne : c ≠ k := fun e => hnot (by rw [← e]; exact h2)
        rw [upd_other _ _ hne]
        refine ⟨q1, q2, ?_⟩
        rcases q3 with q3 | q3
        · exact .inl q3
        · right
          by_cases e : I c = k
          · rw [e, upd_same]
          · rw [upd_other _ _ e]; exact q3
  · intro e he hlt
    rcases List.mem_append.1 he with h1 | h1
    · obtain ⟨c, c1, _⟩ := hk1 _ h1; omega
    · rcases List.mem_cons.1 h1 with h2 | h2
      · exact ⟨k, h2, p1, upd_same _ _ _⟩
      · obtain ⟨m, m1, m2, m3⟩ := hT.opn e (List.mem_cons_of_mem _ h2) hlt
        refine ⟨m, m1, m2, ?_⟩
        by_cases e2 : m = k
        · rw [e2, upd_same]
        · rw [upd_other _ _ e2]; exact m3
  · intro c hc hv
    by_cases e : c = k
    · subst e
      rcases p3 with p3 | p3
      · exact .inl p3
      · right
        by_cases e2 : I c = c
        · rw [e2, upd_same]
        · rw [upd_other _ _ e2]; exact p3
    · rw [upd_other _ _ e] at hv
      rcases hT.vid c hc hv with h1 | h1
      · exact .inl h1
      · right
        by_cases e2 : I c = k
        · rw [e2, upd_same]
        · rw [upd_other _ _ e2]; exact h1
  · intro x hx
    by_cases e : x = k
    · left; rw [e, upd_same]
    · rw [upd_other _ _ e]
      rcases hT.all x hx with h1 | ⟨k', h1, h2⟩
      · exact .inl h1
      · right
        rcases List.mem_cons.1 h1 with h3 | h3
        · obtain rfl : k' = k := by omega
          obtain ⟨c, c1, c2, c3, c4⟩ := h.child h2 (fun e2 => e e2.symm) hx
          exact ⟨c, List.mem_append.2 (.inl (hk2 c c1 c2 c3)), c4⟩
        · exact ⟨k', List.mem_append.2 (.inr (List.mem_cons_of_mem _ h3)), h2⟩

theorem TInv.done {vis : Nat → Bool} (h : TInv K E I vis []) {k : Nat} (hk : k < K) : vis k = true := by
  rcases h.all k hk with h1 | ⟨k', h1, _⟩
  · exact h1
  · cases h1

/-- a list of distinct numbers below K has no more than K entries -/
theorem nodup_le : ∀ (K : Nat) (l : List Nat), l.Nodup → (∀ x, x ∈ l → x < K) → l.length ≤ K := by
  intro K
  induction K with
  | zero =>
    intro l _ h
    cases l with
    | nil => exact Nat.le_refl _
    | cons a l => exact absurd (h a List.mem_cons_self) (Nat.not_lt_zero _)
  | succ K ih =>
    intro l hn h
    have h1 : (l.filter fun x => x != K).length ≤ K := by
      refine ih _ (hn.filter _) (fun x hx => ?_)
      obtain ⟨h2, h3⟩ := List.mem_filter.1 hx
      have := h x h2
      have : x ≠ K := by simpa using h3
      omega
    have h2 : l.length ≤ (l.filter fun x => x != K).length + 1 := by
      clear ih h1 h
      induction l with
      | nil => exact Nat.zero_le _
      | cons a l ihl =>
        obtain ⟨g1, g2⟩ := List.nodup_cons.1 hn
        by_cases c : a = K
        · subst c
          have : (l.filter fun x => x != a) = l := by
            refine List.filter_eq_self.2 (fun x hx => ?_)
            have : x ≠ a := fun e => g1 (by rw [← e]; exact hx)
            simpa using this
          simp [this]
        · have := ihl g2
          simp [c]
          omega
    omega

/-- the number that an entry speaks of -/
def ent (e : Int) : Nat := if e < 0 then (-e - 1).toNat else e.toNat

theorem TInv.len {vis : Nat → Bool} {T : List Int} (h : TInv K E I vis T) : T.length ≤ K := by
  have hl : (T.map ent).length = T.length := List.length_map ..
  rw [← hl]
  refine nodup_le K _ ?_ ?_
  · refine List.pairwise_map.2 (h.nd.imp_of_mem ?_)
    intro a b ha hb hne e
    unfold ent at e
    by_cases ca : a < 0
    · obtain ⟨m, m1, m2, m3⟩ := h.opn a ha ca
      by_cases cb : b < 0
      · rw [if_pos ca, if_pos cb] at e; omega
      · rw [if_pos ca, if_neg cb] at e
        have hbb : b = ((b.toNat : Nat) : Int) := by omega
        rw [hbb] at hb
        obtain ⟨_, q, _⟩ := h.pend _ hb
        have : m = b.toNat := by omega
        rw [← this, m3] at q; cases q
    · have haa : a = ((a.toNat : Nat) : Int) := by omega
      by_cases cb : b < 0
      · rw [if_neg ca, if_pos cb] at e
        obtain ⟨m, m1, m2, m3⟩ := h.opn b hb cb
        rw [haa] at ha
        obtain ⟨_, q, _⟩ := h.pend _ ha
        have : m = a.toNat := by omega
        rw [← this, m3] at q; cases q
      · rw [if_neg ca, if_neg cb] at e; omega
  · intro x hx
    obtain ⟨e, he, rfl⟩ := List.mem_map.1 hx
    unfold ent
    split
    · obtain ⟨m, m1, m2, _⟩ := h.opn e he (by assumption); omega
    · have hee : e = ((e.toNat : Nat) : Int) := by omega
      rw [hee] at he
      exact (h.pend _ he).1

end
end Go.Proofs.Ybulkexnju.G
