/-
  watchedVars: a block is begun: the loop over its instructions.
-/
import Derived.Test.YbulkexnjuVarsJ
namespace Go.Proofs.Ybulkexnju.W
open Go.RowKit Go.Proofs.Ybulkexnju.G
set_option linter.unusedVariables false
set_option maxRecDepth 100000

/-- a block has been done, its kids are not yet laid -/
def RelF (c : WC) (k : Nat) (t : List Int) (vis : Nat → Bool) (a : Act) (W : World) : Prop :=
  ∃ (x : Nat → Value) (v37 : Value), a = ⟨(frW c x v37 t.length (.int .i32 (k : Int)) (x 40) (x 41)).toArray, []⟩ ∧
    KW c (c.cnt (k :: opens t)) (todoV t) t.length (c.Fnd (upd vis k true)) v37 W

theorem RelF.mk {c : WC} {k : Nat} {l : List Value} {W : World} {t : List Int} {vis : Nat → Bool} {v37 : Value} (hf : l = frW c (nth l) v37 t.length (.int .i32 (k : Int)) (nth l 40) (nth l 41))
    (h3 : KW c (c.cnt (k :: opens t)) (todoV t) t.length (c.Fnd (upd vis k true)) v37 W) : RelF c k t vis ⟨l.toArray, []⟩ W :=
  ⟨nth l, v37, by rw [← hf], h3⟩

theorem WC.PI_end {c : WC} {k : Nat} {vis : Nat → Bool} (hk : k < c.K) {x : Nat} : c.PI k vis (c.st (c.ord k + 1)) x ↔ c.Fnd (upd vis k true) x := by
  unfold WC.PI WC.Fnd
  constructor
  · rintro (⟨m, m1, m2, m3⟩ | ⟨j, h1, h2, h3⟩)
    · refine ⟨m, m1, ?_, m3⟩
      by_cases e : m = k
      · rw [e, upd_same]
      · rw [upd_ne e]; exact m2
    · exact ⟨k, hk, upd_same _ _ _, j, h1, h2, h3⟩
  · rintro ⟨m, m1, m2, m3⟩
    by_cases e : m = k
    · subst e
      obtain ⟨j, h1, h2, h3⟩ := m3
      exact .inr ⟨j, h1, h2, h3⟩
    · rw [upd_ne e] at m2
      exact .inl ⟨m, m1, m2, m3⟩

set_option maxHeartbeats 8000000 in
theorem walk_visit {c : WC} (hc : c.Ok) {Q : Exit → Act → World → Prop} {k : Nat} {t : List Int} {vis : Nat → Bool} (hT : TInv c.K (EN c.sc c.ord c.K) c.I vis ((k : Int) :: t)) (hnext : ∀ a W, RelF c k t vis a W → (right 4 B7).wp Yba.prog Q a W) :
    ∀ a W, RelE c (k : Int) t vis a W → (right 3 B7).wp Yba.prog Q a W := by
  rintro a W ⟨x, v37, rfl, _, hkw⟩
  have hkK : k < c.K := (hT.pend k List.mem_cons_self).1
  have hn4 := hc.inn.n4
  have hkb := hc.tr.kb
  have hob := hc.tr.dom.oN k hkK
  rw [← hc.nb] at hob
  have hinc := hc.tr.made.inc (b := c.ord k) (by rw [← hc.nb]; exact hob)
  have hle := hc.tr.made.le (b := c.ord k + 1) (by rw [← hc.nb]; omega)
  have hnb := hc.tr.nb
  rw [← hc.nb] at hnb
  obtain ⟨o, eo⟩ : ∃ o, o = c.ord k := ⟨_, rfl⟩
  obtain ⟨s, es⟩ : ∃ s, s = c.st o := ⟨_, rfl⟩
  obtain ⟨e, ee⟩ : ∃ e, e = c.st (o + 1) := ⟨_, rfl⟩
  rw [← eo, ← es, ← ee] at hinc
  rw [← eo, ← ee] at hle
  rw [← eo] at hob
  have E : Aside (o = c.ord k ∧ s = c.st o ∧ e = c.st (o + 1)) := ⟨eo, es, ee⟩
  have hki : (k : Int) < (c.K : Int) := by omega
  have hobi : (o : Int) < (c.NB : Int) + 1 := by omega
  have hobi2 : (o : Int) + 1 < (c.NB : Int) + 1 := by omega
  have hobi3 : (o : Int) < 4096 := by omega
  have cell1 : ∀ wr : World, FX c.V c.w c.NB c.St c.go c.F c.Se c.st c.K c.ord c.fst c.at_ c.T wr → wr.cell? ⟨c.go, k, none⟩ = some (.int .i32 (o : Int)) ∧ wr.cell? ⟨c.St, o, none⟩ = some (.int .i32 (s : Int)) ∧ wr.cell? ⟨c.St, o + 1, none⟩ = some (.int .i32 (e : Int)) := by
    intro wr h
    rw [eo, es, ee, eo]
    exact ⟨h.ro k hkK, h.rs _ (by omega), h.rs _ (by omega)⟩
  obtain ⟨c1, c2, c3⟩ := cell1 W hkw.fx
  have HA : Aside (∀ wr : World, FX c.V c.w c.NB c.St c.go c.F c.Se c.st c.K c.ord c.fst c.at_ c.T wr → wr.cell? ⟨c.go, k, none⟩ = some (.int .i32 (o : Int)) ∧ wr.cell? ⟨c.St, o, none⟩ = some (.int .i32 (s : Int)) ∧ wr.cell? ⟨c.St, o + 1, none⟩ = some (.int .i32 (e : Int))) := cell1
  have HS : Aside (RelI c k t vis s s s ⟨(frW c x v37 t.length (.int .i32 (k : Int)) (x 40) (.int .i32 (s : Int))).toArray, []⟩ W → True) := fun _ => trivial
  have hstart : KW c (c.cnI k (opens t) s) (todoV t) t.length (c.PI k vis s) v37 W := by
    rw [opens_pos (by omega)] at hkw
    refine hkw.congr (fun x _ => ?_) (fun x => ?_)
    · unfold WC.cnI
      rw [es, eo]; omega
    · unfold WC.PI
      exact ⟨.inl, fun h => h.elim id (fun ⟨j, h1, h2, _⟩ => by rw [← eo, ← es] at h1; omega)⟩
  have A : Aside (KW c (c.cnI k (opens t) s) (todoV t) t.length (c.PI k vis s) v37 W) := hstart
  have HC : Aside (c.Ok ∧ TInv c.K (EN c.sc c.ord c.K) c.I vis ((k : Int) :: t)) := ⟨hc, hT⟩
  have HX : Aside (∀ a W, RelF c k t vis a W → (right 4 B7).wp Yba.prog Q a W) := hnext
  clear hkw hT cell1 eo es ee hc hnext HS hstart
  unfold frW fw
  conv => arg 2; whnf
  go_wp2
  clear c1 c2 c3
  rename_i K0 hK0
  have hK' : ∀ a W, RelF c k t vis a W → K0 a W := fun a W h => hK0 a W (HX.out a W h)
  clear hK0 HX
  refine wp_loop_ghost_k (fun n a W => ∃ i, s ≤ i ∧ i ≤ e ∧ n = e - i ∧ RelI c k t vis i i i a W) (e - s) ?_ ?_
  · exact ⟨s, Nat.le_refl _, by omega, rfl, RelI.mk rfl A.out⟩
  · rintro n a wr ⟨i, hi1, hi2, rfl, hR⟩ J KJ hJ hKJ
    by_cases hlt : i < e
    · have hat : At c k t vis i := by
        obtain ⟨eo, es, ee⟩ := E.out
        refine ⟨HC.out.1, HC.out.2, ?_, ?_⟩
        · rw [← eo, ← es]; exact hi1
        · rw [← eo, ← ee]; exact hlt
      obtain ⟨y, v, rfl, hkw⟩ := hR
      obtain ⟨c1, c2, c3⟩ := HA.out wr hkw.fx
      have hie : (i : Int) < (e : Int) := by omega
      refine wp_seq_k (fun K1 hK1 => ?_)
      have hX : ∀ a' W', RelI c k t vis i i i a' W' → K1 a' W' := by
        intro a' W' h
        refine hK1 a' W' (wp_seq_k (fun K2 hK2 => wp_block ?_))
        refine wp_seq (visit_A hat (fun a1 W1 h1 => visit_B hat (fun a2 W2 h2 => ?_) a1 W1 h1) a' W' h)
        refine hK2 a2 W2 ?_
        obtain ⟨x2, u2, rfl, hk2⟩ := h2
        have hi4 : (i : Int) < 4096 := by omega
        have A2 : Aside (KW c (c.cnI k (opens t) (i + 1)) (todoV t) t.length (c.PI k vis (i + 1)) u2 W2) := hk2
        have HJ : Aside (∀ k_1 a' w', (∃ i, s ≤ i ∧ i ≤ e ∧ k_1 = e - i ∧ RelI c k t vis i i i a' w') → J k_1 a' w') := hJ
        have HKJ : Aside (∀ a' w', Handed J (e - i) a' w' → KJ a' w') := hKJ
        clear hk2 hJ hKJ hK1 hK2 h hkw c1 c2 c3 hat hK'
        unfold frW fw
        conv => arg 2; whnf
        go_wp2
        refine HKJ.out _ _ (Handed.intro (e - (i + 1)) (by omega) (HJ.out _ _ _ ⟨i + 1, by omega, by omega, rfl, RelI.mk (by rw [show ((i + 1 : Nat) : Int) = (i : Int) + 1 by omega]; rfl) A2.out⟩))
      have A3 : Aside (∀ a' W', RelI c k t vis i i i a' W' → K1 a' W') := hX
      have A4 : Aside (KW c (c.cnI k (opens t) i) (todoV t) t.length (c.PI k vis i) v wr) := hkw
      clear hX hkw hK1 hat hJ hKJ hK'
      unfold frW fw
      conv => arg 2; whnf
      go_wp2
      exact A3.out _ _ (RelI.mk rfl A4.out)
    · obtain rfl : i = e := by omega
      obtain ⟨y, v, rfl, hkw⟩ := hR
      obtain ⟨c1, c2, c3⟩ := HA.out wr hkw.fx
      have A4 : Aside (KW c (c.cnI k (opens t) i) (todoV t) t.length (c.PI k vis i) v wr) := hkw
      have HK' : Aside (∀ a W, RelF c k t vis a W → K0 a W) := hK'
      clear hkw hJ hKJ hK' hlt
      unfold frW fw
      conv => arg 2; whnf
      go_wp2
      obtain ⟨eo, es, ee⟩ := E.out
      refine HK'.out _ _ (RelF.mk rfl (A4.out.congr (fun x _ => ?_) (fun x => ?_)))
      · unfold WC.cnI WC.cnt
        simp only [sumO]
        rw [← eo, ← es, ← ee]
        omega
      · rw [ee, eo]
        exact WC.PI_end hkK
end Go.Proofs.Ybulkexnju.W
