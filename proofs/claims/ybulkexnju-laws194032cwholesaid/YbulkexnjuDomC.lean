/-
  region 31: in whatever order its operations come.
-/
import Derived.Test.YbulkexnjuDomB
namespace Go.Proofs.Ybulkexnju.W
open Go.RowKit Go.Proofs.Ybulkexnju.G
set_option linter.unusedVariables false
set_option maxRecDepth 100000

/-- how many are false -/
def cf : List Bool → Nat
  | [] => 0
  | b :: l => (if b then 0 else 1) + cf l

theorem cf_set : ∀ {l : List Bool} {i : Nat}, l[i]? = some false → cf (l.set i true) + 1 = cf l := by
  intro l
  induction l with
  | nil => intro i h; simp at h
  | cons b l ih =>
    intro i h
    cases i with
    | zero =>
      simp at h
      subst h
      simp [cf]
      omega
    | succ i =>
      have := ih (i := i) (by simpa using h)
      simp only [List.set_cons_succ, cf]
      omega

theorem listed_false {listed : Array Bool} {j : Nat} (h : listed.getD j true = false) : listed.toList[j]? = some false := by
  rw [Array.getElem?_toList]
  rw [Array.getD_eq_getD_getElem?] at h
  cases e : listed[j]? with
  | none => rw [e] at h; cases h
  | some b => rw [e] at h; simp at h; rw [h]

theorem wpAny_inv {P : Program} {md : Region.Mode} {ops : Array Oper} {Q : Exit → Act → World → Prop} {I : Array Bool → Act → World → Prop}
    (hend : ∀ listed a w, I listed a w → Region.ready md ops listed = [] → Q .normal a w)
    (hstep : ∀ listed a w i, I listed a w → i ∈ Region.ready md ops listed → wpOp P ops Q i (fun a' w' => I (listed.setIfInBounds i true) a' w') a w) :
    ∀ fuel listed a w, I listed a w → cf listed.toList ≤ fuel → wpAny P md ops Q fuel listed a w := by
  intro fuel
  induction fuel with
  | zero =>
    intro listed a w hI hc
    have hr : Region.ready md ops listed = [] := by
      refine List.eq_nil_iff_forall_not_mem.2 (fun j hj => ?_)
      have := cf_set (listed_false (mem_ready.1 hj).1)
      omega
    exact ⟨hr, hend listed a w hI hr⟩
  | succ fuel ih =>
    intro listed a w hI hc
    refine ⟨hend listed a w hI, fun i hi => wpOp_mono (fun a' w' h => ih _ a' w' h ?_) (hstep listed a w i hI hi)⟩
    have := cf_set (listed_false (mem_ready.1 hi).1)
    simp only [Array.toList_setIfInBounds]
    omega

/-- what holds while the operations of region 31 come up; l i: operation i has come -/
structure I31 (K L : Nat) (W0 : World) (l : Nat → Bool) (s : Nat → Value) (b : Nat → Nat) (W : World) : Prop where
  s0 : l 0 = true → s 170 = .int .i64 (K : Int)
  s2 : l 2 = true → s 172 = .int .i64 (K : Int)
  s4 : l 4 = true → s 174 = .int .i64 (K : Int)
  s1 : l 1 = true → s 171 = .slice (some ⟨b 1, 0, none⟩) K K ∧ W.rowIs (b 1) 21 K (fun _ => .int .i32 0)
  s3 : l 3 = true → s 173 = .slice (some ⟨b 3, 0, none⟩) K K ∧ W.rowIs (b 3) 21 K (fun _ => .int .i32 0)
  s5 : l 5 = true → s 175 = .slice (some ⟨b 5, 0, none⟩) K K ∧ W.rowIs (b 5) 21 K (fun _ => .int .i32 0)
  s6 : l 6 = true → s 16 = .pointer (some ⟨b 6, 0, none⟩) ∧ ∃ v, W.rowIs (b 6) 57 1 (fun _ => v) ∧ (l 9 = true → v = .slice (some ⟨b 1, 0, none⟩) K K)
  s7 : l 7 = true → s 17 = .pointer (some ⟨b 7, 0, none⟩) ∧ ∃ v, W.rowIs (b 7) 57 1 (fun _ => v) ∧ (l 10 = true → v = .slice (some ⟨b 3, 0, none⟩) K K)
  s8 : l 8 = true → s 18 = .pointer (some ⟨b 8, 0, none⟩) ∧ ∃ v, W.rowIs (b 8) 57 1 (fun _ => v) ∧ (l 11 = true → v = .slice (some ⟨b 5, 0, none⟩) K K)
  ge : ∀ i, (i = 1 ∨ i = 3 ∨ i = 5 ∨ i = 6 ∨ i = 7 ∨ i = 8) → l i = true → L ≤ b i ∧ b i < W.heap.size
  ne : ∀ i j, (i = 1 ∨ i = 3 ∨ i = 5 ∨ i = 6 ∨ i = 7 ∨ i = 8) → (j = 1 ∨ j = 3 ∨ j = 5 ∨ j = 6 ∨ j = 7 ∨ j = 8) → i ≠ j → l i = true → l j = true → b i ≠ b j
  p1 : l 9 = true → l 6 = true ∧ l 1 = true
  p3 : l 10 = true → l 7 = true ∧ l 3 = true
  p5 : l 11 = true → l 8 = true ∧ l 5 = true
  big : L ≤ W.heap.size
  bel : Below L W0 W

/-- a new block -/
theorem I31.alloc {K L : Nat} {W0 : World} {l : Nat → Bool} {s : Nat → Value} {b : Nat → Nat} {W : World} (h : I31 K L W0 l s b W) (i : Nat) (hi : i = 1 ∨ i = 3 ∨ i = 5 ∨ i = 6 ∨ i = 7 ∨ i = 8) (hl : l i = false) (o : Obj) :
    (∀ j, j ≠ i → l j = true → upd b i W.heap.size j = b j) ∧ I31 K L W0 l s (upd b i W.heap.size) (W.alloc o) := by
  have hb : ∀ j, l j = true → upd b i W.heap.size j = b j := fun j hj => upd_other _ _ (fun e => by rw [e, hl] at hj; cases hj)
  refine ⟨fun j _ hj => hb j hj, ⟨h.s0, h.s2, h.s4, ?_, ?_, ?_, ?_, ?_, ?_, ?_, ?_, h.p1, h.p3, h.p5, by have := h.big; simp; omega, h.bel.alloc h.big _⟩⟩
  · intro c; rw [hb 1 c]; exact ⟨(h.s1 c).1, (h.s1 c).2.alloc _⟩
  · intro c; rw [hb 3 c]; exact ⟨(h.s3 c).1, (h.s3 c).2.alloc _⟩
  · intro c; rw [hb 5 c]; exact ⟨(h.s5 c).1, (h.s5 c).2.alloc _⟩
  · intro c
    rw [hb 6 c]
    obtain ⟨c1, v, c2, c3⟩ := h.s6 c
    exact ⟨c1, v, c2.alloc _, fun c4 => by rw [hb 1 (h.p1 c4).2]; exact c3 c4⟩
  · intro c
    rw [hb 7 c]
    obtain ⟨c1, v, c2, c3⟩ := h.s7 c
    exact ⟨c1, v, c2.alloc _, fun c4 => by rw [hb 3 (h.p3 c4).2]; exact c3 c4⟩
  · intro c
    rw [hb 8 c]
    obtain ⟨c1, v, c2, c3⟩ := h.s8 c
    exact ⟨c1, v, c2.alloc _, fun c4 => by rw [hb 5 (h.p5 c4).2]; exact c3 c4⟩
  · intro j hj c; rw [hb j c]; have := h.ge j hj c; simp; omega
  · intro j k hj hk hne c1 c2; rw [hb j c1, hb k c2]; exact h.ne j k hj hk hne c1 c2

theorem upd_ne {α : Type} {f : Nat → α} {i j : Nat} {x : α} (h : j ≠ i) : upd f i x j = f j := upd_other f x h

/-- a number moved into its slot -/
theorem I31.num {K L : Nat} {W0 : World} {l : Nat → Bool} {s : Nat → Value} {b : Nat → Nat} {W : World} (h : I31 K L W0 l s b W) (i d : Nat) (hi : (i = 0 ∧ d = 170) ∨ (i = 2 ∧ d = 172) ∨ (i = 4 ∧ d = 174)) :
    I31 K L W0 (upd l i true) (upd s d (.int .i64 (K : Int))) b W := by
  have hl : ∀ j, j ≠ i → upd l i true j = l j := fun j hj => upd_other _ _ hj
  have hs : ∀ j, j ≠ d → upd s d (Value.int .i64 (K : Int)) j = s j := fun j hj => upd_other _ _ hj
  have h1 : ∀ j, j = 1 ∨ j = 3 ∨ j = 5 ∨ j = 6 ∨ j = 7 ∨ j = 8 ∨ j = 9 ∨ j = 10 ∨ j = 11 → upd l i true j = l j := fun j hj => hl j (by omega)
  have h2 : ∀ j, j = 171 ∨ j = 173 ∨ j = 175 ∨ j = 16 ∨ j = 17 ∨ j = 18 → upd s d (Value.int .i64 (K : Int)) j = s j := fun j hj => hs j (by omega)
  have sx : ∀ (j e : Nat), (j = 0 ∧ e = 170) ∨ (j = 2 ∧ e = 172) ∨ (j = 4 ∧ e = 174) → (l j = true → s e = .int .i64 (K : Int)) → upd l i true j = true → upd s d (Value.int .i64 (K : Int)) e = .int .i64 (K : Int) := by
    intro j e hje hh c
    by_cases c2 : e = d
    · rw [c2, upd_same]
    · rw [upd_ne c2]; exact hh (by rwa [upd_ne (by omega)] at c)
  refine ⟨sx 0 170 (by omega) h.s0, sx 2 172 (by omega) h.s2, sx 4 174 (by omega) h.s4, ?_, ?_, ?_, ?_, ?_, ?_, ?_, ?_, ?_, ?_, ?_, h.big, h.bel⟩
  · rw [h1 1 (by omega), h2 171 (by omega)]; exact h.s1
  · rw [h1 3 (by omega), h2 173 (by omega)]; exact h.s3
  · rw [h1 5 (by omega), h2 175 (by omega)]; exact h.s5
  · rw [h1 6 (by omega), h1 9 (by omega), h2 16 (by omega)]; exact h.s6
  · rw [h1 7 (by omega), h1 10 (by omega), h2 17 (by omega)]; exact h.s7
  · rw [h1 8 (by omega), h1 11 (by omega), h2 18 (by omega)]; exact h.s8
  · intro j hj; rw [h1 j (by omega)]; exact h.ge j hj
  · intro j k hj hk; rw [h1 j (by omega), h1 k (by omega)]; exact h.ne j k hj hk
  · rw [h1 9 (by omega), h1 6 (by omega), h1 1 (by omega)]; exact h.p1
  · rw [h1 10 (by omega), h1 7 (by omega), h1 3 (by omega)]; exact h.p3
  · rw [h1 11 (by omega), h1 8 (by omega), h1 5 (by omega)]; exact h.p5

theorem I31.setRow {K L : Nat} {W0 : World} {l : Nat → Bool} {s : Nat → Value} {b : Nat → Nat} {W : World} (A : I31 K L W0 l s b W) (i d : Nat) (hi : (i = 1 ∧ d = 171) ∨ (i = 3 ∧ d = 173) ∨ (i = 5 ∧ d = 175)) (hl : l i = false)
    (hr : W.rowIs (b i) 21 K (fun _ => .int .i32 0)) (hg : L ≤ b i ∧ b i < W.heap.size) (hne : ∀ j, (j = 1 ∨ j = 3 ∨ j = 5 ∨ j = 6 ∨ j = 7 ∨ j = 8) → j ≠ i → l j = true → b j ≠ b i) :
    I31 K L W0 (upd l i true) (upd s d (.slice (some ⟨b i, 0, none⟩) K K)) b W := by
  have ge : ∀ j, (j = 1 ∨ j = 3 ∨ j = 5 ∨ j = 6 ∨ j = 7 ∨ j = 8) → upd l i true j = true → L ≤ b j ∧ b j < W.heap.size := by
    intro j hj c
    by_cases e : j = i
    · rw [e]; exact hg
    · rw [upd_ne e] at c; exact A.ge j hj c
  have ne : ∀ j k, (j = 1 ∨ j = 3 ∨ j = 5 ∨ j = 6 ∨ j = 7 ∨ j = 8) → (k = 1 ∨ k = 3 ∨ k = 5 ∨ k = 6 ∨ k = 7 ∨ k = 8) → j ≠ k → upd l i true j = true → upd l i true k = true → b j ≠ b k := by
    intro j k hj hk hjk c1 c2
    by_cases e : j = i
    · subst e
      rw [upd_ne (fun e => hjk e.symm)] at c2
      exact (hne k hk (fun e => hjk e.symm) c2).symm
    · rw [upd_ne e] at c1
      by_cases e2 : k = i
      · subst e2; exact hne j hj e c1
      · rw [upd_ne e2] at c2; exact A.ne j k hj hk hjk c1 c2
  rcases hi with ⟨rfl, rfl⟩ | ⟨rfl, rfl⟩ | ⟨rfl, rfl⟩
  · exact ⟨by simpa [upd] using A.s0, by simpa [upd] using A.s2, by simpa [upd] using A.s4, fun _ => ⟨by simp [upd], hr⟩, by simpa [upd] using A.s3, by simpa [upd] using A.s5, by simpa [upd] using A.s6, by simpa [upd] using A.s7, by simpa [upd] using A.s8, ge, ne,
      fun c => ⟨by simpa [upd] using (A.p1 (by simpa [upd] using c)).1, by simp [upd]⟩, by simpa [upd] using A.p3, by simpa [upd] using A.p5, A.big, A.bel⟩
  · exact ⟨by simpa [upd] using A.s0, by simpa [upd] using A.s2, by simpa [upd] using A.s4, by simpa [upd] using A.s1, fun _ => ⟨by simp [upd], hr⟩, by simpa [upd] using A.s5, by simpa [upd] using A.s6, by simpa [upd] using A.s7, by simpa [upd] using A.s8, ge, ne,
      by simpa [upd] using A.p1, fun c => ⟨by simpa [upd] using (A.p3 (by simpa [upd] using c)).1, by simp [upd]⟩, by simpa [upd] using A.p5, A.big, A.bel⟩
  · exact ⟨by simpa [upd] using A.s0, by simpa [upd] using A.s2, by simpa [upd] using A.s4, by simpa [upd] using A.s1, by simpa [upd] using A.s3, fun _ => ⟨by simp [upd], hr⟩, by simpa [upd] using A.s6, by simpa [upd] using A.s7, by simpa [upd] using A.s8, ge, ne,
      by simpa [upd] using A.p1, by simpa [upd] using A.p3, fun c => ⟨by simpa [upd] using (A.p5 (by simpa [upd] using c)).1, by simp [upd]⟩, A.big, A.bel⟩

theorem I31.setBox {K L : Nat} {W0 : World} {l : Nat → Bool} {s : Nat → Value} {b : Nat → Nat} {W : World} (A : I31 K L W0 l s b W) (i d : Nat) (hi : (i = 6 ∧ d = 16) ∨ (i = 7 ∧ d = 17) ∨ (i = 8 ∧ d = 18)) (hl : l i = false)
    {v : Value} (hr : W.rowIs (b i) 57 1 (fun _ => v)) (hg : L ≤ b i ∧ b i < W.heap.size) (hne : ∀ j, (j = 1 ∨ j = 3 ∨ j = 5 ∨ j = 6 ∨ j = 7 ∨ j = 8) → j ≠ i → l j = true → b j ≠ b i) :
    I31 K L W0 (upd l i true) (upd s d (.pointer (some ⟨b i, 0, none⟩))) b W := by
  have ge : ∀ j, (j = 1 ∨ j = 3 ∨ j = 5 ∨ j = 6 ∨ j = 7 ∨ j = 8) → upd l i true j = true → L ≤ b j ∧ b j < W.heap.size := by
    intro j hj c
    by_cases e : j = i
    · rw [e]; exact hg
    · rw [upd_ne e] at c; exact A.ge j hj c
  have ne : ∀ j k, (j = 1 ∨ j = 3 ∨ j = 5 ∨ j = 6 ∨ j = 7 ∨ j = 8) → (k = 1 ∨ k = 3 ∨ k = 5 ∨ k = 6 ∨ k = 7 ∨ k = 8) → j ≠ k → upd l i true j = true → upd l i true k = true → b j ≠ b k := by
    intro j k hj hk hjk c1 c2
    by_cases e : j = i
    · subst e
      rw [upd_ne (fun e => hjk e.symm)] at c2
      exact (hne k hk (fun e => hjk e.symm) c2).symm
    · rw [upd_ne e] at c1
      by_cases e2 : k = i
      · subst e2; exact hne j hj e c1
      · rw [upd_ne e2] at c2; exact A.ne j k hj hk hjk c1 c2
  rcases hi with ⟨rfl, rfl⟩ | ⟨rfl, rfl⟩ | ⟨rfl, rfl⟩
  · exact ⟨by simpa [upd] using A.s0, by simpa [upd] using A.s2, by simpa [upd] using A.s4, by simpa [upd] using A.s1, by simpa [upd] using A.s3, by simpa [upd] using A.s5, fun _ => ⟨by simp [upd], v, hr, fun c => (by have := (A.p1 (by simpa [upd] using c)).1; rw [hl] at this; cases this)⟩, by simpa [upd] using A.s7, by simpa [upd] using A.s8, ge, ne,
      fun c => (by have := (A.p1 (by simpa [upd] using c)).1; rw [hl] at this; cases this), by simpa [upd] using A.p3, by simpa [upd] using A.p5, A.big, A.bel⟩
  · exact ⟨by simpa [upd] using A.s0, by simpa [upd] using A.s2, by simpa [upd] using A.s4, by simpa [upd] using A.s1, by simpa [upd] using A.s3, by simpa [upd] using A.s5, by simpa [upd] using A.s6, fun _ => ⟨by simp [upd], v, hr, fun c => (by have := (A.p3 (by simpa [upd] using c)).1; rw [hl] at this; cases this)⟩, by simpa [upd] using A.s8, ge, ne,
      by simpa [upd] using A.p1, fun c => (by have := (A.p3 (by simpa [upd] using c)).1; rw [hl] at this; cases this), by simpa [upd] using A.p5, A.big, A.bel⟩
  · exact ⟨by simpa [upd] using A.s0, by simpa [upd] using A.s2, by simpa [upd] using A.s4, by simpa [upd] using A.s1, by simpa [upd] using A.s3, by simpa [upd] using A.s5, by simpa [upd] using A.s6, by simpa [upd] using A.s7, fun _ => ⟨by simp [upd], v, hr, fun c => (by have := (A.p5 (by simpa [upd] using c)).1; rw [hl] at this; cases this)⟩, ge, ne,
      by simpa [upd] using A.p1, by simpa [upd] using A.p3, fun c => (by have := (A.p5 (by simpa [upd] using c)).1; rw [hl] at this; cases this), A.big, A.bel⟩

/-- a box is filled -/
theorem I31.store {K L : Nat} {W0 : World} {l : Nat → Bool} {s : Nat → Value} {b : Nat → Nat} {W : World} (h : I31 K L W0 l s b W) (i k r : Nat) (hi : (i = 9 ∧ k = 6 ∧ r = 1) ∨ (i = 10 ∧ k = 7 ∧ r = 3) ∨ (i = 11 ∧ k = 8 ∧ r = 5)) (hk : l k = true) (hr : l r = true) :
    I31 K L W0 (upd l i true) s b (W.setCell ⟨b k, 0, none⟩ (.slice (some ⟨b r, 0, none⟩) K K)) := by
  have hks : k = 1 ∨ k = 3 ∨ k = 5 ∨ k = 6 ∨ k = 7 ∨ k = 8 := by omega
  have ot : ∀ j, (j = 1 ∨ j = 3 ∨ j = 5 ∨ j = 6 ∨ j = 7 ∨ j = 8) → j ≠ k → l j = true → ∀ {t : TypeId} {n : Nat} {f : Nat → Value}, W.rowIs (b j) t n f → (W.setCell ⟨b k, 0, none⟩ (.slice (some ⟨b r, 0, none⟩) K K)).rowIs (b j) t n f :=
    fun j hj hjk hlj _ _ _ hrow => hrow.setOther (h.ne j k hj hks hjk hlj hk) _
  have sz : (W.setCell ⟨b k, 0, none⟩ (.slice (some ⟨b r, 0, none⟩) K K)).heap.size = W.heap.size := by simp [World.setCell]
  have ge : ∀ j, (j = 1 ∨ j = 3 ∨ j = 5 ∨ j = 6 ∨ j = 7 ∨ j = 8) → upd l i true j = true → L ≤ b j ∧ b j < (W.setCell ⟨b k, 0, none⟩ (.slice (some ⟨b r, 0, none⟩) K K)).heap.size := by
    intro j hj c
    rw [upd_ne (by omega)] at c
    rw [sz]
    exact h.ge j hj c
  have ne : ∀ j k, (j = 1 ∨ j = 3 ∨ j = 5 ∨ j = 6 ∨ j = 7 ∨ j = 8) → (k = 1 ∨ k = 3 ∨ k = 5 ∨ k = 6 ∨ k = 7 ∨ k = 8) → j ≠ k → upd l i true j = true → upd l i true k = true → b j ≠ b k := by
    intro j k' hj hk' hjk c1 c2
    rw [upd_ne (by omega)] at c1
    rw [upd_ne (by omega)] at c2
    exact h.ne j k' hj hk' hjk c1 c2
  have bel : Below L W0 (W.setCell ⟨b k, 0, none⟩ (.slice (some ⟨b r, 0, none⟩) K K)) := h.bel.setCell (h.ge k hks hk).1 _
  have big : L ≤ (W.setCell ⟨b k, 0, none⟩ (.slice (some ⟨b r, 0, none⟩) K K)).heap.size := by rw [sz]; exact h.big
  have row : ∀ (j e : Nat), (j = 1 ∨ j = 3 ∨ j = 5) → (l j = true → s e = .slice (some ⟨b j, 0, none⟩) K K ∧ W.rowIs (b j) 21 K (fun _ => .int .i32 0)) → upd l i true j = true →
      s e = .slice (some ⟨b j, 0, none⟩) K K ∧ (W.setCell ⟨b k, 0, none⟩ (.slice (some ⟨b r, 0, none⟩) K K)).rowIs (b j) 21 K (fun _ => .int .i32 0) := by
    intro j e hj hh c
    rw [upd_ne (by omega)] at c
    exact ⟨(hh c).1, ot j (by omega) (by omega) c (hh c).2⟩
  have box : ∀ (j e q o : Nat), (j = 6 ∧ q = 9 ∧ o = 1) ∨ (j = 7 ∧ q = 10 ∧ o = 3) ∨ (j = 8 ∧ q = 11 ∧ o = 5) → (l j = true → s e = .pointer (some ⟨b j, 0, none⟩) ∧ ∃ v, W.rowIs (b j) 57 1 (fun _ => v) ∧ (l q = true → v = .slice (some ⟨b o, 0, none⟩) K K)) → upd l i true j = true →
      s e = .pointer (some ⟨b j, 0, none⟩) ∧ ∃ v, (W.setCell ⟨b k, 0, none⟩ (.slice (some ⟨b r, 0, none⟩) K K)).rowIs (b j) 57 1 (fun _ => v) ∧ (upd l i true q = true → v = .slice (some ⟨b o, 0, none⟩) K K) := by
    intro j e q o hj hh c
    rw [upd_ne (by omega)] at c
    obtain ⟨h1, v, h2, h3⟩ := hh c
    by_cases e2 : j = k
    · subst e2
      obtain rfl : r = o := by omega
      refine ⟨h1, .slice (some ⟨b r, 0, none⟩) K K, (h2.set 0 _).congr (fun i hi => by rw [if_pos (by omega)]), fun _ => rfl⟩
    · refine ⟨h1, v, ot j (by omega) e2 c h2, fun c2 => h3 ?_⟩
      rwa [upd_ne (by omega)] at c2
  have pp : ∀ (q j o : Nat), (j = 6 ∧ q = 9 ∧ o = 1) ∨ (j = 7 ∧ q = 10 ∧ o = 3) ∨ (j = 8 ∧ q = 11 ∧ o = 5) → (l q = true → l j = true ∧ l o = true) → upd l i true q = true → upd l i true j = true ∧ upd l i true o = true := by
    intro q j o hq hh c
    rw [upd_ne (show j ≠ i by omega), upd_ne (show o ≠ i by omega)]
    by_cases e : q = i
    · obtain rfl : j = k := by omega
      obtain rfl : o = r := by omega
      exact ⟨hk, hr⟩
    · rw [upd_ne e] at c; exact hh c
  refine ⟨fun c => h.s0 (by rwa [upd_ne (by omega)] at c), fun c => h.s2 (by rwa [upd_ne (by omega)] at c), fun c => h.s4 (by rwa [upd_ne (by omega)] at c), row 1 171 (by omega) h.s1, row 3 173 (by omega) h.s3, row 5 175 (by omega) h.s5,
    box 6 16 9 1 (by omega) h.s6, box 7 17 10 3 (by omega) h.s7, box 8 18 11 5 (by omega) h.s8, ge, ne, pp 9 6 1 (by omega) h.p1, pp 10 7 3 (by omega) h.p3, pp 11 8 5 (by omega) h.p5, big, bel⟩
end Go.Proofs.Ybulkexnju.W
