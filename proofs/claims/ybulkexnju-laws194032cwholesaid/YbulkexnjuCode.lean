/-
  PLAIN MATHEMATICS, NO Go IN SIGHT: a program of n instructions (kd: its kinds, tg: where its jumps go to), its graph, and the blocks that watchedVars makes of it.
-/
import Derived.Test.YbulkexnjuBlocks
namespace Go.Proofs.Ybulkexnju.G

/-- a jump of whatever kind -/
abbrev jmp (kd : Nat → Nat) (i : Nat) : Prop := kd i = 3 ∨ kd i = 4 ∨ kd i = 5
/-- a return of whatever kind -/
abbrev ret (kd : Nat → Nat) (i : Nat) : Prop := kd i = 6 ∨ kd i = 7

/-- the first successor -/
def aI (n : Nat) (kd tg : Nat → Nat) (i : Nat) : Int := if kd i = 6 ∨ kd i = 7 then -1 else if kd i = 3 then tg i else if i + 1 < n then ((i + 1 : Nat) : Int) else -1
/-- the second -/
def bI (kd tg : Nat → Nat) (i : Nat) : Int := if kd i = 4 ∨ kd i = 5 then tg i else -1
def sI (n : Nat) (kd tg : Nat → Nat) (e : Nat) : Int := if e % 2 = 0 then aI n kd tg (e / 2) else bI kd tg (e / 2)

theorem sI0 (n : Nat) (kd tg : Nat → Nat) (i : Nat) : sI n kd tg (2 * i + 0) = aI n kd tg i := by
  unfold sI; rw [if_pos (by omega), show (2 * i + 0) / 2 = i by omega]
theorem sI1 (n : Nat) (kd tg : Nat → Nat) (i : Nat) : sI n kd tg (2 * i + 1) = bI kd tg i := by
  unfold sI; rw [if_neg (by omega), show (2 * i + 1) / 2 = i by omega]

/-- an edge between instructions -/
def EI (n : Nat) (kd tg : Nat → Nat) (i j : Nat) : Prop := i < n ∧ Edge (sI n kd tg) i j

theorem EI_iff {n : Nat} {kd tg : Nat → Nat} {i j : Nat} : EI n kd tg i j ↔ i < n ∧ (aI n kd tg i = j ∨ bI kd tg i = j) := by
  constructor
  · rintro ⟨h, k, hk, e⟩
    refine ⟨h, ?_⟩
    rcases (show k = 0 ∨ k = 1 by omega) with rfl | rfl
    · rw [sI0] at e; exact .inl e
    · rw [sI1] at e; exact .inr e
  · rintro ⟨h, e | e⟩
    · exact ⟨h, 0, by omega, by rw [sI0]; exact e⟩
    · exact ⟨h, 1, by omega, by rw [sI1]; exact e⟩

/-- where a block starts -/
def Lead (n : Nat) (kd tg : Nat → Nat) (i : Nat) : Prop := i = 0 ∨ ∃ k, k < n ∧ ((jmp kd k ∧ tg k = i) ∨ ((jmp kd k ∨ ret kd k) ∧ k + 1 = i))

/-- what watchedVars has made: 'ld' marks the starts of blocks, 'st' lists them, 'sc' holds each block's successors -/
structure Made (n : Nat) (kd tg : Nat → Nat) (ld : Nat → Bool) (st : Nat → Nat) (sc : Nat → Int) : Prop where
  n0 : 0 < n
  tgn : ∀ i, i < n → jmp kd i → tg i < n
  hld : ∀ i, i < n → (ld i = true ↔ Lead n kd tg i)
  hst : ∀ i, i < n → ld i = true → st (cb ld i) = i
  hsn : st (cb ld n) = n
  sc0 : ∀ b l, b < cb ld n → l + 1 = st (b + 1) → sc (2 * b) = if ret kd l ∨ kd l = 3 then -1 else if l + 1 < n then ((cb ld (l + 1 + 1) - 1 : Nat) : Int) else -1
  sc1 : ∀ b l, b < cb ld n → l + 1 = st (b + 1) → sc (2 * b + 1) = if jmp kd l then ((cb ld (tg l + 1) - 1 : Nat) : Int) else -1

/-- an edge between blocks -/
def EB (ld : Nat → Bool) (n : Nat) (sc : Nat → Int) (b c : Nat) : Prop := b < cb ld n ∧ c < cb ld n ∧ Edge sc b c

section
variable {n : Nat} {kd tg : Nat → Nat} {ld : Nat → Bool} {st : Nat → Nat} {sc : Nat → Int}

theorem Made.ld0 (h : Made n kd tg ld st sc) : ld 0 = true := (h.hld 0 h.n0).2 (.inl rfl)
theorem Made.pos (h : Made n kd tg ld st sc) (i : Nat) : 0 < cb ld (i + 1) := Nat.lt_of_le_of_lt (Nat.zero_le _) (cb_lt h.ld0 (show 0 < i + 1 by omega))

/-- block b's start -/
theorem Made.start (h : Made n kd tg ld st sc) {b : Nat} (hb : b < cb ld n) : st b < n ∧ ld (st b) = true ∧ cb ld (st b) = b := by
  obtain ⟨j, h1, h2, h3⟩ := cb_surj ld hb
  have := h.hst j h1 h2
  rw [h3] at this
  rw [this]; exact ⟨h1, h2, h3⟩

theorem Made.le (h : Made n kd tg ld st sc) {b : Nat} (hb : b ≤ cb ld n) : st b ≤ n := by
  by_cases e : b = cb ld n
  · rw [e, h.hsn]; exact Nat.le_refl _
  · exact Nat.le_of_lt (h.start (by omega)).1

theorem Made.bd (h : Made n kd tg ld st sc) {i : Nat} (hi : i < n) : cb ld (i + 1) - 1 < cb ld n ∧ st (cb ld (i + 1) - 1) ≤ i ∧ i < st (cb ld (i + 1) - 1 + 1) := by
  have hp := h.pos i
  have hle := cb_mono ld (show i + 1 ≤ n by omega)
  refine ⟨by omega, ?_, ?_⟩
  · obtain ⟨j, h1, h2, h3⟩ := cb_surj ld (show cb ld (i + 1) - 1 < cb ld (i + 1) by omega)
    have := h.hst j (by omega) h2
    rw [h3] at this
    omega
  · rw [show cb ld (i + 1) - 1 + 1 = cb ld (i + 1) by omega]
    by_cases e : cb ld (i + 1) = cb ld n
    · rw [e, h.hsn]; exact hi
    · obtain ⟨h1, h2, h3⟩ := h.start (show cb ld (i + 1) < cb ld n by omega)
      rcases Nat.lt_or_ge i (st (cb ld (i + 1))) with c | c
      · exact c
      · have := cb_lt h2 (show st (cb ld (i + 1)) < i + 1 by omega)
        omega

theorem Made.own (h : Made n kd tg ld st sc) {b i : Nat} (hb : b < cb ld n) (h1 : st b ≤ i) (h2 : i < st (b + 1)) : i < n ∧ cb ld (i + 1) - 1 = b := by
  have hn := h.le (show b + 1 ≤ cb ld n by omega)
  refine ⟨by omega, ?_⟩
  obtain ⟨g1, g2, g3⟩ := h.start hb
  have g4 := cb_lt g2 (show st b < i + 1 by omega)
  by_cases c : cb ld (i + 1) = b + 1
  · omega
  · obtain ⟨j, j1, j2, j3⟩ := cb_surj ld (show b + 1 < cb ld (i + 1) by omega)
    have := h.hst j (by omega) j2
    rw [j3] at this
    omega

theorem Made.inc (h : Made n kd tg ld st sc) {b : Nat} (hb : b < cb ld n) : st b < st (b + 1) := by
  obtain ⟨g1, g2, g3⟩ := h.start hb
  by_cases e : b + 1 = cb ld n
  · rw [e, h.hsn]; exact g1
  · obtain ⟨k1, k2, k3⟩ := h.start (show b + 1 < cb ld n by omega)
    rcases Nat.lt_or_ge (st b) (st (b + 1)) with c | c
    · exact c
    · have := cb_mono ld c
      omega

/-- a start of a block is its block's -/
theorem Made.lead (h : Made n kd tg ld st sc) {j : Nat} (hj : j < n) (hl : ld j = true) : st (cb ld (j + 1) - 1) = j := by
  rw [cb_yes hl]
  exact h.hst j hj hl

theorem Made.blocks (h : Made n kd tg ld st sc) : Blk n (cb ld n) st (fun i => cb ld (i + 1) - 1) (EI n kd tg) (EB ld n sc) := by
  have hEIn : ∀ i j, EI n kd tg i j → i < n ∧ j < n := by
    intro i j e
    obtain ⟨hi, e | e⟩ := EI_iff.1 e
    · refine ⟨hi, ?_⟩
      unfold aI at e
      split at e
      · omega
      · split at e
        · have := h.tgn i hi (.inl (by assumption)); omega
        · split at e <;> omega
    · refine ⟨hi, ?_⟩
      unfold bI at e
      split at e
      · rename_i c
        have := h.tgn i hi (.inr c); omega
      · omega
  have notlead : ∀ i, i < n → i + 1 < st (cb ld (i + 1) - 1 + 1) → ¬ jmp kd i ∧ ¬ ret kd i ∧ i + 1 < n := by
    intro i hi hlt
    have hb := h.bd hi
    have ho := h.own hb.1 (show st (cb ld (i + 1) - 1) ≤ i + 1 by omega) hlt
    have hl : ld (i + 1) = false := by
      by_cases c : ld (i + 1) = true
      · have := cb_yes c
        have := h.pos i
        omega
      · simpa using c
    have hno : ¬ (jmp kd i ∨ ret kd i) := by
      intro c
      have := (h.hld (i + 1) ho.1).2 (.inr ⟨i, hi, .inr ⟨c, rfl⟩⟩)
      rw [hl] at this; cases this
    exact ⟨fun c => hno (.inl c), fun c => hno (.inr c), ho.1⟩
  have next : ∀ i, i < n → i + 1 = st (cb ld (i + 1) - 1 + 1) → i + 1 < n → ld (i + 1) = true := by
    intro i hi he hlt
    have hb := h.bd hi
    by_cases e : cb ld (i + 1) - 1 + 1 = cb ld n
    · rw [e, h.hsn] at he; omega
    · have := h.start (show cb ld (i + 1) - 1 + 1 < cb ld n by omega)
      rw [← he] at this
      exact this.2.1
  refine ⟨?_, fun b hb => h.inc hb, ?_, fun i hi => h.bd hi, fun b i hb h1 h2 => h.own hb h1 h2, ?_, ?_, ?_, hEIn, fun b c e => ⟨e.1, e.2.1⟩⟩
  · have := h.hst 0 h.n0 h.ld0
    exact this
  · show cb ld (0 + 1) - 1 = 0
    rw [cb_yes h.ld0]; rfl
  · intro i j hi hlt
    obtain ⟨h1, h2, h3⟩ := notlead i hi hlt
    have a1 : aI n kd tg i = ((i + 1 : Nat) : Int) := by
      unfold aI
      rw [if_neg (show ¬ (kd i = 6 ∨ kd i = 7) from h2), if_neg (fun c => h1 (.inl c)), if_pos h3]
    have b1 : bI kd tg i = -1 := by
      unfold bI
      rw [if_neg (fun c => h1 (.inr c))]
    rw [EI_iff, a1, b1]
    constructor
    · rintro ⟨_, e | e⟩ <;> omega
    · intro e; exact ⟨hi, .inl (by rw [e])⟩
  · intro i j hi hl e
    have hij := hEIn i j e
    have hb := h.bd hi
    have hjb := h.bd hij.2
    have key : ld j = true ∧ Edge sc (cb ld (i + 1) - 1) (cb ld (j + 1) - 1) := by
      obtain ⟨_, e | e⟩ := EI_iff.1 e
      · unfold aI at e
        by_cases c1 : kd i = 6 ∨ kd i = 7
        · rw [if_pos c1] at e; omega
        · rw [if_neg c1] at e
          by_cases c2 : kd i = 3
          · rw [if_pos c2] at e
            obtain rfl : tg i = j := by omega
            refine ⟨(h.hld _ hij.2).2 (.inr ⟨i, hi, .inl ⟨.inl c2, rfl⟩⟩), 1, by omega, ?_⟩
            rw [h.sc1 _ i hb.1 hl, if_pos (.inl c2)]
          · rw [if_neg c2] at e
            by_cases c3 : i + 1 < n
            · rw [if_pos c3] at e
              obtain rfl : i + 1 = j := by omega
              refine ⟨next i hi hl c3, 0, by omega, ?_⟩
              rw [show 2 * (cb ld (i + 1) - 1) + 0 = 2 * (cb ld (i + 1) - 1) by omega, h.sc0 _ i hb.1 hl, if_neg (fun c => c.elim c1 c2), if_pos c3]
            · rw [if_neg c3] at e; omega
      · unfold bI at e
        by_cases c1 : kd i = 4 ∨ kd i = 5
        · rw [if_pos c1] at e
          obtain rfl : tg i = j := by omega
          refine ⟨(h.hld _ hij.2).2 (.inr ⟨i, hi, .inl ⟨.inr c1, rfl⟩⟩), 1, by omega, ?_⟩
          rw [h.sc1 _ i hb.1 hl, if_pos (.inr c1)]
        · rw [if_neg c1] at e; omega
    exact ⟨hij.2, h.lead hij.2 key.1, hb.1, hjb.1, key.2⟩
  · intro i c hi hl e
    obtain ⟨hb, hc, k, hk, e⟩ := e
    refine ⟨hc, EI_iff.2 ⟨hi, ?_⟩⟩
    rcases (show k = 0 ∨ k = 1 by omega) with rfl | rfl
    · left
      rw [show 2 * (cb ld (i + 1) - 1) + 0 = 2 * (cb ld (i + 1) - 1) by omega, h.sc0 _ i hb hl] at e
      by_cases c1 : ret kd i ∨ kd i = 3
      · rw [if_pos c1] at e; omega
      · rw [if_neg c1] at e
        by_cases c2 : i + 1 < n
        · rw [if_pos c2] at e
          obtain rfl : c = cb ld (i + 1 + 1) - 1 := by omega
          rw [h.lead c2 (next i hi hl c2)]
          unfold aI
          rw [if_neg (fun c => c1 (.inl c)), if_neg (fun c => c1 (.inr c)), if_pos c2]
        · rw [if_neg c2] at e; omega
    · rw [h.sc1 _ i hb hl] at e
      by_cases c1 : jmp kd i
      · rw [if_pos c1] at e
        obtain rfl : c = cb ld (tg i + 1) - 1 := by omega
        have ht := h.tgn i hi c1
        rw [h.lead ht ((h.hld _ ht).2 (.inr ⟨i, hi, .inl ⟨c1, rfl⟩⟩))]
        by_cases c2 : kd i = 3
        · left
          unfold aI
          rw [if_neg (by omega), if_pos c2]
        · right
          unfold bI
          rcases c1 with c1 | c1
          · exact absurd c1 c2
          · rw [if_pos c1]
      · rw [if_neg c1] at e; omega
end
end Go.Proofs.Ybulkexnju.G
