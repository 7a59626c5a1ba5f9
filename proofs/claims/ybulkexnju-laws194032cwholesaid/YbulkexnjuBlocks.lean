/-
  PLAIN MATHEMATICS, NO Go IN SIGHT: counting; basic blocks; dominance between instructions by dominance between blocks.
-/
import Derived.Test.YbulkexnjuLt
namespace Go.Proofs.Ybulkexnju.G

/-! ### counting -/
/-- how many j below m have P -/
def cb (P : Nat → Bool) : Nat → Nat
  | 0 => 0
  | m + 1 => cb P m + if P m = true then 1 else 0

theorem cb_yes {P : Nat → Bool} {m : Nat} (h : P m = true) : cb P (m + 1) = cb P m + 1 := by simp only [cb]; rw [if_pos h]
theorem cb_no {P : Nat → Bool} {m : Nat} (h : P m = false) : cb P (m + 1) = cb P m := by simp only [cb]; rw [if_neg (by rw [h]; exact Bool.false_ne_true)]; rfl

theorem cb_le (P : Nat → Bool) (m : Nat) : cb P m ≤ m := by
  induction m with
  | zero => exact Nat.le_refl _
  | succ m ih => simp only [cb]; split <;> omega

theorem cb_mono (P : Nat → Bool) {a b : Nat} (h : a ≤ b) : cb P a ≤ cb P b := by
  induction b with
  | zero => obtain rfl : a = 0 := by omega
            exact Nat.le_refl _
  | succ b ih =>
    by_cases e : a = b + 1
    · rw [e]; exact Nat.le_refl _
    · have := ih (by omega)
      simp only [cb]; omega

theorem cb_lt {P : Nat → Bool} {j m : Nat} (h : P j = true) (hj : j < m) : cb P j < cb P m := by
  have h1 := cb_yes h
  have h2 := cb_mono P (show j + 1 ≤ m by omega)
  omega

theorem cb_inj {P : Nat → Bool} {i j : Nat} (hi : P i = true) (hj : P j = true) (h : cb P i = cb P j) : i = j := by
  rcases Nat.lt_trichotomy i j with c | c | c
  · have := cb_lt hi c; omega
  · exact c
  · have := cb_lt hj c; omega

/-- every rank is some place's -/
theorem cb_surj (P : Nat → Bool) : ∀ {m i : Nat}, i < cb P m → ∃ j, j < m ∧ P j = true ∧ cb P j = i := by
  intro m
  induction m with
  | zero => intro i h; exact absurd h (Nat.not_lt_zero _)
  | succ m ih =>
    intro i h
    by_cases c : P m = true
    · rw [cb_yes c] at h
      by_cases e : i = cb P m
      · exact ⟨m, by omega, c, e.symm⟩
      · obtain ⟨j, h1, h2, h3⟩ := ih (show i < cb P m by omega)
        exact ⟨j, by omega, h2, h3⟩
    · rw [cb_no (by simpa using c)] at h
      obtain ⟨j, h1, h2, h3⟩ := ih h
      exact ⟨j, by omega, h2, h3⟩

theorem cb_congr {P Q : Nat → Bool} {m : Nat} (h : ∀ j, j < m → P j = Q j) : cb P m = cb Q m := by
  induction m with
  | zero => rfl
  | succ m ih => simp only [cb]; rw [ih (fun j hj => h j (by omega)), h m (by omega)]

theorem cb_none {P : Nat → Bool} {a b : Nat} (hab : a ≤ b) : cb P a = cb P b ↔ ∀ j, a ≤ j → j < b → P j = false := by
  constructor
  · intro h j h1 h2
    by_cases c : P j = true
    · have h3 := cb_lt c h2
      have h4 := cb_mono P h1
      omega
    · simpa using c
  · intro h
    induction b with
    | zero => obtain rfl : a = 0 := by omega
              rfl
    | succ b ih =>
      by_cases e : a = b + 1
      · rw [e]
      · rw [cb_no (h b (by omega) (by omega))]
        exact ih (by omega) (fun j h1 h2 => h j h1 (by omega))

/-! ### basic blocks -/
/-- blocks 0, .., B-1: block b holds the places from st b to below st (b+1); inside a block a place goes on to the next alone; its last goes on to starts of blocks alone -/
structure Blk (n B : Nat) (st blk : Nat → Nat) (EI EB : Nat → Nat → Prop) : Prop where
  s0 : st 0 = 0
  inc : ∀ b, b < B → st b < st (b + 1)
  at0 : blk 0 = 0
  bd : ∀ i, i < n → blk i < B ∧ st (blk i) ≤ i ∧ i < st (blk i + 1)
  own : ∀ b i, b < B → st b ≤ i → i < st (b + 1) → i < n ∧ blk i = b
  inn : ∀ i j, i < n → i + 1 < st (blk i + 1) → (EI i j ↔ j = i + 1)
  out : ∀ i j, i < n → i + 1 = st (blk i + 1) → EI i j → j < n ∧ st (blk j) = j ∧ EB (blk i) (blk j)
  out' : ∀ i c, i < n → i + 1 = st (blk i + 1) → EB (blk i) c → c < B ∧ EI i (st c)
  ei : ∀ i j, EI i j → i < n ∧ j < n
  eb : ∀ b c, EB b c → b < B ∧ c < B

section
variable {n B : Nat} {st blk : Nat → Nat} {EI EB : Nat → Nat → Prop}

theorem Blk.st_in (h : Blk n B st blk EI EB) {b : Nat} (hb : b < B) : st b < n ∧ blk (st b) = b := h.own b (st b) hb (Nat.le_refl _) (h.inc b hb)

/-- down a block -/
theorem Blk.run (h : Blk n B st blk EI EB) {b : Nat} (hb : b < B) : ∀ (k i : Nat), i = st b + k → i < st (b + 1) → Rch (fun x y => EI x y ∧ blk y = b ∧ st b < y ∧ y ≤ i) (st b) i := by
  intro k
  induction k with
  | zero => intro i e _; obtain rfl : i = st b := by omega
            exact Rch.refl _
  | succ k ih =>
    intro i e hi
    have h1 := ih (st b + k) rfl (by omega)
    have h2 := h.own b (st b + k) hb (by omega) (by omega)
    have h3 := h.own b i hb (by omega) hi
    refine (Rch.mono (fun x y hxy => ⟨hxy.1, hxy.2.1, hxy.2.2.1, by omega⟩) h1).step ⟨?_, h3.2, by omega, Nat.le_refl _⟩
    exact (h.inn _ _ h2.1 (by rw [h2.2]; omega)).2 (by omega)

theorem Blk.run' (h : Blk n B st blk EI EB) {i : Nat} (hi : i < n) : Rch (fun x y => EI x y ∧ blk y = blk i ∧ st (blk i) < y ∧ y ≤ i) (st (blk i)) i := by
  obtain ⟨h1, h2, h3⟩ := h.bd i hi
  exact h.run h1 (i - st (blk i)) i (by omega) h3

theorem Blk.last (h : Blk n B st blk EI EB) {b : Nat} (hb : b < B) : ∃ i, i < n ∧ blk i = b ∧ i + 1 = st (b + 1) := by
  have h1 := h.inc b hb
  have h2 := h.own b (st (b + 1) - 1) hb (by omega) (by omega)
  exact ⟨_, h2.1, h2.2, by omega⟩

/-- a way between blocks, past c, is a way between places, past each place of c -/
theorem Blk.lift (h : Blk n B st blk EI EB) (hB : 0 < B) {c j b : Nat} (hj : blk j = c) (hr : RA EB c b) : b < B ∧ b ≠ c ∧ Rch (fun x y => EI x y ∧ y ≠ j) 0 (st b) := by
  obtain ⟨h0, hr⟩ := hr
  refine hr (fun b => b < B ∧ b ≠ c ∧ Rch (fun x y => EI x y ∧ y ≠ j) 0 (st b)) ⟨hB, h0, by rw [h.s0]; exact Rch.refl 0⟩ ?_
  rintro x y ⟨hx, hxc, hrx⟩ ⟨e, hyc⟩
  obtain ⟨i, h1, h2, h3⟩ := h.last hx
  have hrun := h.run' h1
  rw [h2] at hrun
  obtain ⟨hy, ey⟩ := h.out' i y h1 (by rw [h2]; exact h3) (by rw [h2]; exact e)
  have hys := h.st_in hy
  refine ⟨hy, hyc, (hrx.trans (Rch.mono (fun u v huv => ⟨huv.1, fun e2 => ?_⟩) hrun)).step ⟨ey, fun e2 => ?_⟩⟩
  · rw [e2, hj] at hys; exact hyc hys.2.symm
  · rw [e2, hj] at huv; exact hxc huv.2.1.symm

/-- a way between places, past j -/
theorem Blk.drop (h : Blk n B st blk EI EB) (hn : 0 < n) {j z : Nat} (hj : j < n) (hr : RA EI j z) : z < n ∧ ((blk z ≠ blk j ∧ RA EB (blk j) (blk z)) ∨ (blk z = blk j ∧ z < j)) := by
  obtain ⟨h0, hr⟩ := hr
  have hjb := h.bd j hj
  refine hr (fun z => z < n ∧ ((blk z ≠ blk j ∧ RA EB (blk j) (blk z)) ∨ (blk z = blk j ∧ z < j))) ⟨hn, ?_⟩ ?_
  · by_cases c : blk 0 = blk j
    · exact .inr ⟨c, by omega⟩
    · refine .inl ⟨c, ?_⟩
      rw [h.at0] at c ⊢
      exact ⟨c, Rch.refl 0⟩
  · rintro x y ⟨hx, hd⟩ ⟨e, hyj⟩
    have hb := h.bd x hx
    have hy := (h.ei x y e).2
    refine ⟨hy, ?_⟩
    by_cases cl : x + 1 < st (blk x + 1)
    · obtain rfl := (h.inn x y hx cl).1 e
      have hby := h.own (blk x) (x + 1) hb.1 (by omega) cl
      rw [hby.2]
      rcases hd with hd | hd
      · exact .inl hd
      · exact .inr ⟨hd.1, by omega⟩
    · have hl : x + 1 = st (blk x + 1) := by omega
      obtain ⟨_, h2, h3⟩ := h.out x y hx hl e
      rcases hd with ⟨hd1, hd2⟩ | ⟨hd1, hd2⟩
      · by_cases c : blk y = blk j
        · right
          refine ⟨c, ?_⟩
          rw [← c] at hjb
          omega
        · exact .inl ⟨c, hd2.1, hd2.2.step ⟨h3, c⟩⟩
      · rw [hd1] at hl; omega

/-- a block that is reached is reached for the first time -/
theorem first {EB : Nat → Nat → Prop} {b : Nat} (hr : Rch EB 0 b) : b = 0 ∨ ∃ y, RA EB b y ∧ EB y b := by
  by_cases h0 : 0 = b
  · exact .inl h0.symm
  · have := hr (fun z => (z ≠ b → RA EB b z ∨ ∃ y, RA EB b y ∧ EB y b) ∧ (z = b → ∃ y, RA EB b y ∧ EB y b)) ⟨fun _ => .inl ⟨h0, Rch.refl 0⟩, fun e => absurd e h0⟩ ?_
    · exact .inr (this.2 rfl)
    · rintro x y ⟨h1, h2⟩ e
      refine ⟨fun hy => ?_, fun hy => ?_⟩
      · by_cases c : x = b
        · exact .inr (h2 c)
        · rcases h1 c with h3 | h3
          · exact .inl ⟨h3.1, h3.2.step ⟨e, hy⟩⟩
          · exact .inr h3
      · subst hy
        by_cases c : x = y
        · exact h2 c
        · rcases h1 c with h3 | h3
          · exact ⟨x, h3, e⟩
          · exact h3

/-- a place is reached just where its block is -/
theorem Blk.reach (h : Blk n B st blk EI EB) (hB : 0 < B) (hn : 0 < n) {i : Nat} (hi : i < n) : Rch EI 0 i ↔ Rch EB 0 (blk i) := by
  constructor
  · intro hr
    have := hr (fun z => z < n ∧ Rch EB 0 (blk z)) ⟨hn, by rw [h.at0]; exact Rch.refl 0⟩ ?_
    · exact this.2
    · rintro x y ⟨hx, hrx⟩ e
      have hb := h.bd x hx
      have hy := (h.ei x y e).2
      refine ⟨hy, ?_⟩
      by_cases cl : x + 1 < st (blk x + 1)
      · obtain rfl := (h.inn x y hx cl).1 e
        rw [(h.own (blk x) (x + 1) hb.1 (by omega) cl).2]; exact hrx
      · exact hrx.step (h.out x y hx (by omega) e).2.2
  · intro hr
    have := hr (fun b => b < B ∧ Rch EI 0 (st b)) ⟨hB, by rw [h.s0]; exact Rch.refl 0⟩ ?_
    · exact this.2.trans (Rch.mono (fun x y hxy => hxy.1) (h.run' hi))
    · rintro x y ⟨hx, hrx⟩ e
      obtain ⟨i, h1, h2, h3⟩ := h.last hx
      have hrun := h.run' h1
      rw [h2] at hrun
      obtain ⟨hy, ey⟩ := h.out' i y h1 (by rw [h2]; exact h3) (by rw [h2]; exact e)
      exact ⟨hy, (hrx.trans (Rch.mono (fun u v huv => huv.1) hrun)).step ey⟩

/-- WHICH PLACES DOMINATE A PLACE THAT IS REACHED -/
theorem Blk.dom (h : Blk n B st blk EI EB) (hB : 0 < B) {i j : Nat} (hi : i < n) (hj : j < n) (hne : j ≠ i) (hr : Rch EI 0 i) :
    Dom EI j i ↔ (blk j = blk i ∧ j < i) ∨ (blk j ≠ blk i ∧ Dom EB (blk j) (blk i)) := by
  have hn : 0 < n := by omega
  by_cases c : blk j = blk i
  · constructor
    · intro hd
      left
      refine ⟨c, ?_⟩
      rcases Nat.lt_or_ge j i with h1 | h1
      · exact h1
      · exfalso
        have hib := h.bd i hi
        have h0 : 0 ≠ j := by omega
        have hrun := h.run' hi
        have hst : Rch (fun x y => EI x y ∧ y ≠ j) 0 (st (blk i)) := by
          rcases first ((h.reach hB hn hi).1 hr) with e | ⟨y, hy, ey⟩
          · rw [e, h.s0]; exact Rch.refl 0
          · obtain ⟨hyB, hyc, hry⟩ := h.lift hB c hy
            obtain ⟨k, k1, k2, k3⟩ := h.last hyB
            have hrk := h.run' k1
            rw [k2] at hrk
            obtain ⟨_, e2⟩ := h.out' k (blk i) k1 (by rw [k2]; exact k3) (by rw [k2]; exact ey)
            refine (hry.trans (Rch.mono (fun u v huv => ⟨huv.1, fun e3 => ?_⟩) hrk)).step ⟨e2, by omega⟩
            rw [e3, c] at huv; exact hyc huv.2.1.symm
        exact hd ⟨h0, hst.trans (Rch.mono (fun u v huv => ⟨huv.1, by omega⟩) hrun)⟩
    · rintro (⟨_, h1⟩ | ⟨h1, _⟩)
      · intro hra
        rcases (h.drop hn hj hra).2 with h2 | h2
        · exact h2.1 c.symm
        · omega
      · exact absurd c h1
  · constructor
    · intro hd
      refine .inr ⟨c, fun hra => hd ?_⟩
      obtain ⟨_, _, h3⟩ := h.lift hB rfl hra
      have h0 : 0 ≠ j := by
        intro e
        subst e
        rw [h.at0] at hra
        exact hra.1 rfl
      exact ⟨h0, h3.trans (Rch.mono (fun u v huv => ⟨huv.1, fun e => c (by rw [← e]; exact huv.2.1)⟩) (h.run' hi))⟩
    · rintro (⟨h1, _⟩ | ⟨_, h1⟩)
      · exact absurd h1 c
      · intro hra
        rcases (h.drop hn hj hra).2 with h2 | h2
        · exact h1 h2.2
        · exact c h2.1.symm
end
end Go.Proofs.Ybulkexnju.G
