/-
  PLAIN MATHEMATICS, NO Go IN SIGHT: the forest of links with its labels, the buckets, and the last pass of the algorithm of Lengauer and Tarjan, as invariants with a lemma for each step.
-/
import Derived.Test.YbulkexnjuDfs
namespace Go.Proofs.Ybulkexnju.G

section
variable {N : Nat} {E : Nat → Nat → Prop} {p s : Nat → Nat}

/-- the nodes greater than w are linked: link v is above v; label v has the least semidominator of those from v up to, not with, link v; all of those are linked -/
structure LInv (N : Nat) (p s : Nat → Nat) (w : Nat) (label link : Nat → Int) : Prop where
  lo : ∀ v, v ≤ w → v < N → link v = -1 ∧ label v = v
  hi : ∀ v, w < v → v < N → ∃ a l : Nat, link v = a ∧ label v = l ∧ Anc p a v ∧ a < v ∧ Anc p l v ∧ a < l ∧ l ≤ v ∧ (∀ u, Anc p u v → a < u → w < u) ∧ ∀ u, Anc p u v → a < u → s l ≤ s u

theorem LInv.start {label link : Nat → Int} (hl : ∀ v, v < N → label v = v) (hk : ∀ v, v < N → link v = -1) : LInv N p s (N - 1) label link :=
  ⟨fun v _ h => ⟨hk v h, hl v h⟩, fun v h1 h2 => by omega⟩

/-- w is linked to its parent -/
theorem LInv.linked (D : Dfs N E p) {w : Nat} {label link : Nat → Int} (h : LInv N p s w label link) (h0 : 0 < w) (hw : w < N) : LInv N p s (w - 1) label (upd link w (p w)) := by
  refine ⟨fun v h1 h2 => ?_, fun v h1 h2 => ?_⟩
  · rw [upd_other _ _ (by omega)]; exact h.lo v (by omega) h2
  · by_cases e : v = w
    · subst e
      have hp := D.plt v h0 hw
      have key : ∀ u, Anc p u v → p v < u → u = v := by
        intro u hu hlt
        by_cases e : u = v
        · exact e
        · have := D.anc_le (hu.up e) (by omega); omega
      refine ⟨p v, v, upd_same _ _ _, (h.lo v (Nat.le_refl _) hw).2, Anc.par p v, hp, Anc.refl p v, hp, Nat.le_refl _, fun u hu hlt => ?_, fun u hu hlt => ?_⟩
      · rw [key u hu hlt]; omega
      · rw [key u hu hlt]; exact Nat.le_refl _
    · rw [upd_other _ _ e]
      obtain ⟨a, l, h3, h4, h5, h6, h7, h8, h9, h10, h11⟩ := h.hi v (by omega) h2
      exact ⟨a, l, h3, h4, h5, h6, h7, h8, h9, fun u hu hlt => by have := h10 u hu hlt; omega, h11⟩

/-- one step of the halving of the way -/
theorem LInv.compress (D : Dfs N E p) {w : Nat} {label link : Nat → Int} (h : LInv N p s w label link) {u a r la lu : Nat} (hu : w < u) (huN : u < N) (hl : link u = a) (ha : w < a) (hr : link a = r) (hla : label a = la) (hlu : label u = lu) :
    LInv N p s w (if s la < s lu then upd label u la else label) (upd link u r) := by
  obtain ⟨a', lu', e1, e2, u3, u4, u5, u6, u7, u8, u9⟩ := h.hi u hu huN
  obtain rfl : a = a' := by omega
  obtain rfl : lu = lu' := by omega
  obtain ⟨r', la', e3, e4, a3, a4, a5, a6, a7, a8, a9⟩ := h.hi a ha (by omega)
  obtain rfl : r = r' := by omega
  obtain rfl : la = la' := by omega
  have split : ∀ x, Anc p x u → r < x → (a < x ∨ (x ≤ a ∧ Anc p x a)) := by
    intro x hx _
    rcases Nat.lt_or_ge a x with c | c
    · exact .inl c
    · exact .inr ⟨c, D.anc_cmp hx u3 huN c⟩
  refine ⟨fun v h1 h2 => ?_, fun v h1 h2 => ?_⟩
  · have := h.lo v h1 h2
    rw [upd_other _ _ (by omega)]
    refine ⟨this.1, ?_⟩
    split
    · rw [upd_other _ _ (by omega)]; exact this.2
    · exact this.2
  · by_cases e : v = u
    · subst e
      rw [upd_same]
      by_cases c : s la < s lu
      · rw [if_pos c]
        refine ⟨r, la, rfl, upd_same _ _ _, a3.trans u3, by omega, a5.trans u3, a6, by omega, fun x hx hlt => ?_, fun x hx hlt => ?_⟩
        · rcases split x hx hlt with c1 | c1
          · exact u8 x hx c1
          · exact a8 x c1.2 hlt
        · rcases split x hx hlt with c1 | c1
          · have := u9 x hx c1; omega
          · exact a9 x c1.2 hlt
      · rw [if_neg c]
        refine ⟨r, lu, rfl, e2, a3.trans u3, by omega, u5, by omega, u7, fun x hx hlt => ?_, fun x hx hlt => ?_⟩
        · rcases split x hx hlt with c1 | c1
          · exact u8 x hx c1
          · exact a8 x c1.2 hlt
        · rcases split x hx hlt with c1 | c1
          · exact u9 x hx c1
          · have := a9 x c1.2 hlt; omega
    · rw [upd_other _ _ e]
      obtain ⟨b, l, h3, h4, h5⟩ := h.hi v h1 h2
      refine ⟨b, l, h3, ?_, h5⟩
      split
      · rw [upd_other _ _ e]; exact h4
      · exact h4

/-- what eval answers at v, the nodes greater than w being linked -/
def EvalRes (p s : Nat → Nat) (w v u : Nat) : Prop :=
  (v ≤ w ∧ u = v) ∨ (w < v ∧ w < u ∧ u ≤ v ∧ Anc p u v ∧ ∀ x, Anc p x v → w < x → s u ≤ s x)

/-- where link v is not linked itself, label v is the answer -/
theorem LInv.answer {w : Nat} {label link : Nat → Int} (h : LInv N p s w label link) {v r : Nat} (hv : w < v) (hvN : v < N) (hr : link v = r) (hrw : r ≤ w) : ∃ u : Nat, label v = u ∧ EvalRes p s w v u := by
  obtain ⟨a, l, h1, h2, h3, h4, h5, h6, h7, h8, h9⟩ := h.hi v hv hvN
  obtain rfl : r = a := by omega
  exact ⟨l, h2, .inr ⟨hv, h8 l h5 h6, h7, h5, fun x hx hlt => h9 x hx (by omega)⟩⟩

/-- the way that eval has gathered: q 0 = v, q 1 = link v, .., q k -/
structure Way (N w : Nat) (link : Nat → Int) (q : Nat → Nat) (k : Nat) : Prop where
  bd : ∀ j, j ≤ k → w < q j ∧ q j < N
  lnk : ∀ j, j < k → link (q j) = q (j + 1)
  dec : ∀ j, j < k → q (j + 1) < q j

theorem Way.start {w v : Nat} {link : Nat → Int} (h1 : w < v) (h2 : v < N) : Way N w link (fun _ => v) 0 :=
  ⟨fun _ _ => ⟨h1, h2⟩, fun j hj => by omega, fun j hj => by omega⟩

theorem Way.snoc {w k a : Nat} {label link : Nat → Int} {q : Nat → Nat} (h : Way N w link q k) (hL : LInv N p s w label link) (ha : link (q k) = a) (hwa : w < a) : Way N w link (upd q (k + 1) a) (k + 1) := by
  obtain ⟨a', l, e1, _, _, h4, _⟩ := hL.hi (q k) (h.bd k (Nat.le_refl _)).1 (h.bd k (Nat.le_refl _)).2
  obtain rfl : a = a' := by omega
  have hk := h.bd k (Nat.le_refl _)
  refine ⟨fun j hj => ?_, fun j hj => ?_, fun j hj => ?_⟩
  · by_cases e : j = k + 1
    · subst e; rw [upd_same]; omega
    · rw [upd_other _ _ e]; exact h.bd j (by omega)
  · rw [upd_other _ _ (by omega)]
    by_cases e : j = k
    · subst e; rw [upd_same]; exact ha
    · rw [upd_other _ _ (by omega)]; exact h.lnk j (by omega)
  · rw [upd_other q a (show j ≠ k + 1 by omega)]
    by_cases e : j = k
    · subst e; rw [upd_same]; exact h4
    · rw [upd_other _ _ (by omega)]; exact h.dec j (by omega)

theorem Way.lt {w k : Nat} {link : Nat → Int} {q : Nat → Nat} (h : Way N w link q k) : ∀ {i j : Nat}, i < j → j ≤ k → q j < q i := by
  intro i j
  induction j with
  | zero => intro h1; omega
  | succ j ih =>
    intro h1 h2
    have h3 := h.dec j (by omega)
    by_cases e : i = j
    · subst e; exact h3
    · have := ih (by omega) (by omega); omega

/-- the way back: those from i on are linked to the root r -/
structure Pass (N : Nat) (p s : Nat → Nat) (w : Nat) (label link : Nat → Int) (q : Nat → Nat) (k i r : Nat) : Prop where
  inv : LInv N p s w label link
  bd : ∀ j, j ≤ k → w < q j ∧ q j < N
  lt : ∀ i j, i < j → j ≤ k → q j < q i
  lnk : ∀ j, j < i → link (q j) = q (j + 1)
  top : link (q i) = r
  root : r ≤ w
  ik : i ≤ k

theorem Pass.start {w k r : Nat} {label link : Nat → Int} {q : Nat → Nat} (h : Way N w link q k) (hL : LInv N p s w label link) (hr : link (q k) = r) (hrw : r ≤ w) : Pass N p s w label link q k k r :=
  ⟨hL, h.bd, fun _ _ h1 h2 => h.lt h1 h2, h.lnk, hr, hrw, Nat.le_refl _⟩

theorem Pass.labels {w k i r : Nat} {label link : Nat → Int} {q : Nat → Nat} (h : Pass N p s w label link q k i r) {j : Nat} (hj : j ≤ k) : ∃ l : Nat, label (q j) = l ∧ w < l ∧ l < N := by
  obtain ⟨a, l, h1, h2, h3, h4, h5, h6, h7, h8, h9⟩ := h.inv.hi (q j) (h.bd j hj).1 (h.bd j hj).2
  exact ⟨l, h2, h8 l h5 h6, by have := (h.bd j hj).2; omega⟩

theorem Pass.step (D : Dfs N E p) {w k i r : Nat} {label link : Nat → Int} {q : Nat → Nat} (h : Pass N p s w label link q k (i + 1) r) {la lu : Nat} (hla : label (q (i + 1)) = la) (hlu : label (q i) = lu) :
    Pass N p s w (if s la < s lu then upd label (q i) la else label) (upd link (q i) r) q k i r := by
  have hik := h.ik
  have hb := h.bd i (by omega)
  refine ⟨h.inv.compress D hb.1 hb.2 (h.lnk i (by omega)) (h.bd (i + 1) hik).1 h.top hla hlu, h.bd, h.lt, fun j hj => ?_, upd_same _ _ _, h.root, by omega⟩
  have := h.lt j i hj (by omega)
  rw [upd_other _ _ (by omega)]
  exact h.lnk j (by omega)

theorem Pass.done {w k r : Nat} {label link : Nat → Int} {q : Nat → Nat} (h : Pass N p s w label link q k 0 r) : ∃ u : Nat, label (q 0) = u ∧ EvalRes p s w (q 0) u :=
  h.inv.answer (h.bd 0 (by omega)).1 (h.bd 0 (by omega)).2 h.top h.root

/-! ### the semidominator of w -/
/-- 'cur' is the least that the edges from the nodes of 'done' into w have given -/
structure SInv (p s : Nat → Nat) (w : Nat) (done : Nat → Prop) (cur : Nat) : Prop where
  lo : s w ≤ cur
  hi : cur ≤ w
  le : ∀ v, done v → v < w → cur ≤ v
  ge : ∀ v, done v → w < v → ∀ u, w < u → Anc p u v → cur ≤ s u

theorem SInv.start (hs : Semi N E s) {w : Nat} (h0 : 0 < w) (hw : w < N) : SInv p s w (fun _ => False) w :=
  ⟨Nat.le_of_lt (hs w h0 hw).1, Nat.le_refl _, fun _ h => h.elim, fun _ h => h.elim⟩

/-- the value that eval's answer u bears while w is at hand -/
def semiAt (s : Nat → Nat) (w cur x : Nat) : Nat := if w < x then s x else if x = w then cur else x

theorem SInv.step (D : Dfs N E p) (hs : Semi N E s) {w cur v u : Nat} {done : Nat → Prop} (h : SInv p s w done cur) (h0 : 0 < w) (e : E v w) (hu : EvalRes p s w v u) :
    SInv p s w (fun x => done x ∨ x = v) (if semiAt s w cur u < cur then semiAt s w cur u else cur) := by
  have hb := D.bd v w e
  have hlow : s w ≤ semiAt s w cur u := by
    unfold semiAt
    rcases hu with ⟨h1, rfl⟩ | ⟨h1, h2, h3, h4, h5⟩
    · rw [if_neg (by omega)]
      split
      · exact h.lo
      · exact semi_le_edge hs h0 hb.2 e
    · rw [if_pos h2]
      exact D.semi_le_up hs h0 e h2 h4
  have hle : (if semiAt s w cur u < cur then semiAt s w cur u else cur) ≤ cur := by split <;> omega
  have hle2 : (if semiAt s w cur u < cur then semiAt s w cur u else cur) ≤ semiAt s w cur u := by split <;> omega
  refine ⟨by have := h.lo; split <;> omega, by have := h.hi; omega, ?_, ?_⟩
  · rintro x (hx | rfl) hlt
    · have := h.le x hx hlt; omega
    · rcases hu with ⟨h1, rfl⟩ | ⟨h1, _⟩
      · have : semiAt s w cur u = u := by unfold semiAt; rw [if_neg (by omega), if_neg (by omega)]
        omega
      · omega
  · rintro x (hx | rfl) hlt y hy ha
    · have := h.ge x hx hlt y hy ha; omega
    · rcases hu with ⟨h1, rfl⟩ | ⟨h1, h2, h3, h4, h5⟩
      · omega
      · have : semiAt s w cur u = s u := by unfold semiAt; rw [if_pos h2]
        have := h5 y ha hy
        omega

theorem SInv.done (D : Dfs N E p) (hs : Semi N E s) {w cur : Nat} {done : Nat → Prop} (h : SInv p s w done cur) (h0 : 0 < w) (hw : w < N) (hall : ∀ v, E v w → done v) : cur = s w := by
  have := h.lo
  have h1 := (hs w h0 hw).1
  rcases D.semi_had hs h0 hw with e | ⟨v, u, e, h2, h3, h4, h5⟩
  · have := h.le _ (hall _ e) h1; omega
  · have := h.ge v (hall v e) h2 u h3 h4; omega

/-! ### the buckets -/
/-- the list that begins at h and goes on by 'next' -/
def Lst (next : Nat → Int) : Int → List Nat → Prop
  | h, [] => h = -1
  | h, v :: l => h = v ∧ Lst next (next v) l

theorem Lst.upd {next : Nat → Int} {w : Nat} {x : Int} : ∀ {l : List Nat} {h : Int}, Lst next h l → w ∉ l → Lst (G.upd next w x) h l := by
  intro l
  induction l with
  | nil => intro h hl _; exact hl
  | cons v l ih =>
    intro h hl hw
    have hv : v ≠ w := fun e => hw (by rw [e]; exact List.mem_cons_self)
    refine ⟨hl.1, ?_⟩
    rw [upd_other _ _ hv]
    exact ih hl.2 (fun h => hw (List.mem_cons_of_mem _ h))

/-- what is known of v when it has been taken out of its bucket -/
def Done (p s : Nat → Nat) (v : Nat) (i : Int) : Prop :=
  ∃ u, Anc p u v ∧ s v < u ∧ u ≤ v ∧ (∀ x, Anc p x v → s v < x → s u ≤ s x) ∧ i = ((if s u < s v then u else s v : Nat) : Int)

/-- v waits in the bucket of its semidominator: the child of that on the way to v is not linked yet -/
def Waits (p s : Nat → Nat) (w x v : Nat) : Prop := s v = x ∧ ∀ c, 0 < c → p c = x → Anc p c v → c ≤ w

structure BInv (N : Nat) (p s : Nat → Nat) (w : Nat) (bucket next idom : Nat → Int) (L : Nat → List Nat) : Prop where
  lst : ∀ x, x < N → Lst next (bucket x) (L x)
  mem : ∀ x, x < N → ∀ v, v ∈ L x → w < v ∧ v < N ∧ Waits p s w x v
  all : ∀ v, w < v → v < N → v ∈ L (s v) ∨ Done p s v (idom v)

theorem BInv.start {bucket next idom : Nat → Int} (hb : ∀ v, v < N → bucket v = -1) : BInv N p s (N - 1) bucket next idom (fun _ => []) :=
  ⟨fun x hx => hb x hx, fun x hx v hv => (by cases hv), fun v h1 h2 => (by omega)⟩

/-- w is put into the bucket of its semidominator; w is at hand still -/
theorem BInv.put (hs : Semi N E s) {w : Nat} {bucket next idom : Nat → Int} {L : Nat → List Nat} (h : BInv N p s w bucket next idom L) (h0 : 0 < w) (hw : w < N) :
    (∀ x, x < N → Lst (upd next w (bucket (s w))) (upd bucket (s w) w x) (upd L (s w) (w :: L (s w)) x)) ∧
    (∀ x, x < N → ∀ v, v ∈ upd L (s w) (w :: L (s w)) x → w ≤ v ∧ v < N ∧ (v = w → s w = x) ∧ (w < v → Waits p s w x v)) ∧
    (∀ v, w ≤ v → v < N → v ∈ upd L (s w) (w :: L (s w)) (s v) ∨ Done p s v (idom v)) := by
  have hsw := (hs w h0 hw).1
  have hnot : ∀ x, x < N → w ∉ L x := fun x hx hm => by have := (h.mem x hx w hm).1; omega
  refine ⟨fun x hx => ?_, fun x hx v hv => ?_, fun v h1 h2 => ?_⟩
  · by_cases e : x = s w
    · subst e
      rw [upd_same, upd_same]
      refine ⟨rfl, ?_⟩
      rw [upd_same]
      exact (h.lst _ hx).upd (hnot _ hx)
    · rw [upd_other _ _ e, upd_other _ _ e]
      exact (h.lst x hx).upd (hnot x hx)
  · by_cases e : x = s w
    · subst e
      rw [upd_same] at hv
      rcases List.mem_cons.1 hv with rfl | hv
      · exact ⟨Nat.le_refl _, hw, fun _ => rfl, fun h => by omega⟩
      · have := h.mem _ hx v hv
        exact ⟨by omega, this.2.1, fun e => by omega, fun _ => this.2.2⟩
    · rw [upd_other _ _ e] at hv
      have := h.mem x hx v hv
      exact ⟨by omega, this.2.1, fun e => by omega, fun _ => this.2.2⟩
  · by_cases e : v = w
    · subst e; left; rw [upd_same]; exact List.mem_cons_self
    · rcases h.all v (by omega) h2 with h3 | h3
      · left
        by_cases e2 : s v = s w
        · rw [e2, upd_same]; rw [e2] at h3; exact List.mem_cons_of_mem _ h3
        · rw [upd_other _ _ e2]; exact h3
      · exact .inr h3

/-- the child of x on the way to v -/
theorem Dfs.child (D : Dfs N E p) {x : Nat} : ∀ {v : Nat}, Anc p x v → x ≠ v → v < N → ∃ c, 0 < c ∧ c ≤ v ∧ p c = x ∧ Anc p c v := by
  intro v
  induction v using Nat.strongRecOn with
  | _ v ih =>
    intro h hne hv
    have hle := D.anc_le h hv
    have hp := D.plt v (by omega) hv
    by_cases e : p v = x
    · exact ⟨v, by omega, Nat.le_refl _, e, Anc.refl p v⟩
    · obtain ⟨c, h1, h2, h3, h4⟩ := ih (p v) hp (h.up hne) (fun e2 => e e2.symm) (by omega)
      exact ⟨c, h1, by omega, h3, h4.trans (Anc.par p v)⟩

/-- whoever waits in the bucket of w's parent lies under w -/
theorem Dfs.under (D : Dfs N E p) (hs : Semi N E s) {w v : Nat} (h0 : 0 < w) (hwv : w ≤ v) (hv : v < N) (hsv : s v = p w) (hW : w < v → Waits p s w (p w) v) : Anc p w v := by
  by_cases e : w = v
  · rw [e]; exact Anc.refl p v
  · have hW := hW (by omega)
    have hpw := D.plt w h0 (by omega)
    have ha : Anc p (p w) v := by rw [← hsv]; exact D.semi_anc hs (by omega) hv
    obtain ⟨c, h1, h2, h3, h4⟩ := D.child ha (by omega) hv
    have hc := hW.2 c h1 h3 h4
    have hcw : Anc p c w := D.anc_mid h4 hc hwv hv
    by_cases e2 : c = w
    · rw [← e2]; exact h4
    · have h5 := D.anc_le (hcw.up e2) (by omega)
      have := D.plt c h1 (by omega)
      rw [h3] at this
      omega

/-- eval's answer at v, which waited in the bucket of w's parent, w being linked: v is done -/
theorem Dfs.taken (D : Dfs N E p) (hs : Semi N E s) {w v u : Nat} (h0 : 0 < w) (hwv : w ≤ v) (hv : v < N) (hsv : s v = p w) (hW : w < v → Waits p s w (p w) v) (hu : EvalRes p s (w - 1) v u) :
    Done p s v ((if s u < s v then u else p w : Nat) : Int) := by
  have hun := D.under hs h0 hwv hv hsv hW
  have hpw := D.plt w h0 (by omega)
  rcases hu with ⟨h1, _⟩ | ⟨h1, h2, h3, h4, h5⟩
  · omega
  · refine ⟨u, h4, by omega, h3, fun x hx hlt => ?_, by rw [hsv]⟩
    refine h5 x hx ?_
    rcases Nat.lt_or_ge x w with c | c
    · have hxw : Anc p x w := D.anc_cmp hx hun hv (by omega)
      have := D.anc_le (hxw.up (by omega)) (by omega)
      omega
    · omega

/-- the bucket of w's parent is empty; w is done with -/
theorem BInv.next (D : Dfs N E p) {w : Nat} {bucket next idom idom' : Nat → Int} {L : Nat → List Nat}
    (h1 : ∀ x, x < N → Lst next (bucket x) (L x)) (h2 : ∀ x, x < N → ∀ v, v ∈ L x → w ≤ v ∧ v < N ∧ (v = w → s w = x) ∧ (w < v → Waits p s w x v))
    (h3 : ∀ v, w ≤ v → v < N → v ∈ L (s v) ∨ Done p s v (idom v)) (h0 : 0 < w)
    (hd : ∀ v, v ∈ L (p w) → Done p s v (idom' v)) (hk : ∀ v, v ∉ L (p w) → idom' v = idom v) :
    BInv N p s (w - 1) (upd bucket (p w) (-1)) next idom' (upd L (p w) []) := by
  refine ⟨fun x hx => ?_, fun x hx v hv => ?_, fun v h4 h5 => ?_⟩
  · by_cases e : x = p w
    · subst e; rw [upd_same, upd_same]; exact rfl
    · rw [upd_other _ _ e, upd_other _ _ e]; exact h1 x hx
  · by_cases e : x = p w
    · subst e; rw [upd_same] at hv; cases hv
    · rw [upd_other _ _ e] at hv
      obtain ⟨g1, g2, g3, g4⟩ := h2 x hx v hv
      refine ⟨by omega, g2, ?_⟩
      by_cases e2 : v = w
      · subst e2
        refine ⟨g3 rfl, fun c hc hpc hac => ?_⟩
        by_cases e3 : c = v
        · subst e3; exact absurd hpc.symm e
        · have := D.anc_le hac g2; omega
      · obtain ⟨k1, k2⟩ := g4 (by omega)
        refine ⟨k1, fun c hc hpc hac => ?_⟩
        have := k2 c hc hpc hac
        by_cases e3 : c = w
        · subst e3; exact absurd hpc.symm e
        · omega
  · rcases h3 v (by omega) h5 with h6 | h6
    · by_cases e : s v = p w
      · right; rw [e] at h6; exact hd v h6
      · left; rw [upd_other _ _ e]; exact h6
    · by_cases hm : v ∈ L (p w)
      · exact .inr (hd v hm)
      · right; rw [hk v hm]; exact h6

/-- at the end nobody waits -/
theorem BInv.all_done (D : Dfs N E p) (hs : Semi N E s) {bucket next idom : Nat → Int} {L : Nat → List Nat} (h : BInv N p s 0 bucket next idom L) {v : Nat} (h0 : 0 < v) (hv : v < N) : Done p s v (idom v) := by
  rcases h.all v h0 hv with h1 | h1
  · have hsv := (hs v h0 hv).1
    obtain ⟨_, _, _, h2⟩ := h.mem (s v) (by omega) v h1
    obtain ⟨c, c1, _, c3, c4⟩ := D.child (D.semi_anc hs h0 hv) (by omega) hv
    have := h2 c c1 c3 c4
    omega
  · exact h1

/-! ### the last pass -/
structure FInv (N : Nat) (E : Nat → Nat → Prop) (p s : Nat → Nat) (w : Nat) (idom : Nat → Int) : Prop where
  lo : ∀ v, 0 < v → v < w → ∃ b : Nat, idom v = b ∧ b < v ∧ Idom E b v
  hi : ∀ v, w ≤ v → 0 < v → v < N → Done p s v (idom v)

/-- what stands at w leads to its immediate dominator -/
theorem FInv.at (D : Dfs N E p) (hs : Semi N E s) {w : Nat} {idom : Nat → Int} (h : FInv N E p s w idom) (h0 : 0 < w) (hw : w < N) :
    (idom w = s w ∧ Idom E (s w) w) ∨ (idom w ≠ s w ∧ ∃ u b : Nat, idom w = u ∧ u < w ∧ idom u = b ∧ b < w ∧ Idom E b w) := by
  obtain ⟨u, h1, h2, h3, h4, h5⟩ := h.hi w (Nat.le_refl _) h0 hw
  have hsw := (hs w h0 hw).1
  by_cases c : s u < s w
  · right
    rw [if_pos c] at h5
    have hne : u ≠ w := by intro e; subst e; omega
    obtain ⟨b, b1, b2, b3⟩ := h.lo u (by omega) (by omega)
    exact ⟨by omega, u, b, h5, by omega, b1, by omega, D.case2 hs h0 hw h1 h2 h4 c b3⟩
  · left
    rw [if_neg c] at h5
    refine ⟨h5, D.case1 hs h0 hw fun x hx hlt => ?_⟩
    have := h4 x hx hlt
    omega

theorem FInv.step {w : Nat} {idom : Nat → Int} (h : FInv N E p s w idom) {b : Nat} (hb : b < w) (hI : Idom E b w) : FInv N E p s (w + 1) (upd idom w b) := by
  refine ⟨fun v h1 h2 => ?_, fun v h1 h2 h3 => ?_⟩
  · by_cases e : v = w
    · subst e; exact ⟨b, upd_same _ _ _, hb, hI⟩
    · rw [upd_other _ _ e]; exact h.lo v h1 (by omega)
  · rw [upd_other _ _ (by omega)]; exact h.hi v (by omega) h2 h3

theorem FInv.keep {w : Nat} {idom : Nat → Int} (h : FInv N E p s w idom) {b : Nat} (e : idom w = b) (hb : b < w) (hI : Idom E b w) : FInv N E p s (w + 1) idom := by
  refine ⟨fun v h1 h2 => ?_, fun v h1 h2 h3 => h.hi v (by omega) h2 h3⟩
  by_cases e' : v = w
  · subst e'; exact ⟨b, e, hb, hI⟩
  · exact h.lo v h1 (by omega)
end
end Go.Proofs.Ybulkexnju.G
