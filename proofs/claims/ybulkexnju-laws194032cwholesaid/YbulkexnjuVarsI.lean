/-
  watchedVars: one instruction of a block that is begun.
-/
import Derived.Test.YbulkexnjuVarsH
namespace Go.Proofs.Ybulkexnju.W
open Go.RowKit Go.Proofs.Ybulkexnju.G
set_option linter.unusedVariables false
set_option maxRecDepth 100000

/-- the counts before instruction i of block number k -/
def WC.cnI (c : WC) (k : Nat) (O : List Nat) (i x : Nat) : Nat := c.cnt O x + (cb (sx c.V.sg c.V.X x) i - cb (sx c.V.sg c.V.X x) (c.st (c.ord k)))
/-- what has been found before it -/
def WC.PI (c : WC) (k : Nat) (vis : Nat → Bool) (i x : Nat) : Prop :=
  c.Fnd vis x ∨ ∃ j, c.st (c.ord k) ≤ j ∧ j < i ∧ c.V.rd j = true ∧ c.V.X j = x ∧ Unset (EN c.sc c.ord c.K) c.st c.ord c.V.sg c.V.X c.V.np k j

theorem WC.PI_succ {c : WC} {k : Nat} {vis : Nat → Bool} {i x : Nat} (hi : c.st (c.ord k) ≤ i) : c.PI k vis (i + 1) x ↔ c.PI k vis i x ∨ (c.V.rd i = true ∧ c.V.X i = x ∧ Unset (EN c.sc c.ord c.K) c.st c.ord c.V.sg c.V.X c.V.np k i) := by
  unfold WC.PI
  constructor
  · rintro (h | ⟨j, h1, h2, h3⟩)
    · exact .inl (.inl h)
    · by_cases e : j = i
      · subst e; exact .inr h3
      · exact .inl (.inr ⟨j, h1, by omega, h3⟩)
  · rintro ((h | ⟨j, h1, h2, h3⟩) | h)
    · exact .inl h
    · exact .inr ⟨j, h1, by omega, h3⟩
    · exact .inr ⟨i, hi, by omega, h⟩

/-- at instruction i of block number k: the counts are those before instruction ci, what has been found is that before instruction pi -/
def RelI (c : WC) (k : Nat) (t : List Int) (vis : Nat → Bool) (i ci pi : Nat) (a : Act) (W : World) : Prop :=
  ∃ (x : Nat → Value) (v37 : Value), a = ⟨(frW c x v37 t.length (.int .i32 (k : Int)) (x 40) (.int .i32 (i : Int))).toArray, []⟩ ∧
    KW c (c.cnI k (opens t) ci) (todoV t) t.length (c.PI k vis pi) v37 W

theorem RelI.mk {c : WC} {k : Nat} {l : List Value} {W : World} {t : List Int} {vis : Nat → Bool} {i ci pi : Nat} {v37 : Value} (hf : l = frW c (nth l) v37 t.length (.int .i32 (k : Int)) (nth l 40) (.int .i32 (i : Int)))
    (h3 : KW c (c.cnI k (opens t) ci) (todoV t) t.length (c.PI k vis pi) v37 W) : RelI c k t vis i ci pi ⟨l.toArray, []⟩ W :=
  ⟨nth l, v37, by rw [← hf], h3⟩

theorem KW.other {c : WC} {cn : Nat → Nat} {TL : List Value} {len : Nat} {P P' : Nat → Prop} {v v' : Value} {W : World} (h : KW c cn TL len P v W) {b : Nat} (n1 : b ≠ c.Se) (n2 : b ≠ c.Td) (n3 : c.Se < b) (z : Nat) (u : Value) (hw : WT c P' v' (W.setCell ⟨b, z, none⟩ u)) : KW c cn TL len P' v' (W.setCell ⟨b, z, none⟩ u) :=
  ⟨h.fx.later ((one_set _ _ _ _).mono (Nat.le_of_lt n3)), h.rc.setOther (Ne.symm n1) _, h.rt.kept (grow_set _ _ _ _) (ne_block (Ne.symm n2)), hw⟩

/-- what is at hand at instruction i -/
structure At (c : WC) (k : Nat) (t : List Int) (vis : Nat → Bool) (i : Nat) : Prop where
  ok : c.Ok
  ti : TInv c.K (EN c.sc c.ord c.K) c.I vis ((k : Int) :: t)
  lo : c.st (c.ord k) ≤ i
  hi : i < c.st (c.ord k + 1)

theorem At.kK {c : WC} {k : Nat} {t : List Int} {vis : Nat → Bool} {i : Nat} (h : At c k t vis i) : k < c.K := (h.ti.pend k List.mem_cons_self).1

theorem At.n {c : WC} {k : Nat} {t : List Int} {vis : Nat → Bool} {i : Nat} (h : At c k t vis i) : i < c.V.n := by
  have h1 := h.ok.tr.dom.oN k h.kK
  have h2 := h.ok.tr.made.le (show c.ord k + 1 ≤ cb c.ld c.V.n by omega)
  have := h.hi
  omega

theorem TInv.rest {K : Nat} {E : Nat → Nat → Prop} {I : Nat → Nat} {vis : Nat → Bool} {e : Int} {t : List Int} (h : TInv K E I vis (e :: t)) : t.length + 1 ≤ K := by
  have := h.len
  simpa using this

theorem At.small {c : WC} {k : Nat} {t : List Int} {vis : Nat → Bool} {i : Nat} (h : At c k t vis i) (x : Nat) : c.cnI k (opens t) i x ≤ 18000000 := by
  have h1 := WC.small h.ok h.ti x
  rw [opens_pos (by omega)] at h1
  have h2 := cb_le (sx c.V.sg c.V.X x) i
  have h3 := h.n
  have h4 := h.ok.inn.n4
  unfold WC.cnI
  omega

theorem At.zero {c : WC} {k : Nat} {t : List Int} {vis : Nat → Bool} {i : Nat} (h : At c k t vis i) : c.cnI k (opens t) i (c.V.X i) = 0 ↔ Unset (EN c.sc c.ord c.K) c.st c.ord c.V.sg c.V.X c.V.np k i := by
  refine count_zero (h.ti.ok.1 k rfl) (fun m hm => ?_) h.lo
  obtain ⟨p, hp⟩ := h.ok.tr.dom.doms
  have h1 := hp.sd_lt h.kK ((h.ti.ok.1 k rfl m).1 hm)
  have h2 := h.kK
  have h3 := h.ok.tr.dom.oN m (by omega)
  exact Nat.le_of_lt (h.ok.tr.made.inc h3)

set_option maxHeartbeats 8000000 in
theorem visit_B {c : WC} {k : Nat} {t : List Int} {vis : Nat → Bool} {i : Nat} (hat : At c k t vis i) {Q : Exit → Act → World → Prop} (hnext : ∀ a W, RelI c k t vis i (i + 1) (i + 1) a W → Q .normal a W) :
    ∀ a W, RelI c k t vis i i (i + 1) a W → (right 1 V9).wp Yba.prog Q a W := by
  rintro a W ⟨x, v37, rfl, hkw⟩
  have HC : Aside (At c k t vis i) := hat
  have HX : Aside (∀ a W, RelI c k t vis i (i + 1) (i + 1) a W → Q .normal a W) := hnext
  have hin := hat.n
  have hn4 := hat.ok.inn.n4
  have hi4 : (i : Int) < 4096 := by omega
  have HSg : Aside _ := hkw.fx.vb.sets hin
  have A2 : Aside (KW c (c.cnI k (opens t) i) (todoV t) t.length (c.PI k vis (i + 1)) v37 W) := hkw
  obtain ⟨sv, esv⟩ : ∃ sv, sv = c.V.sg i := ⟨_, rfl⟩
  rw [← esv] at HSg
  have ES : Aside (sv = c.V.sg i) := esv
  cases sv with
  | false =>
    clear hkw esv hat hnext
    unfold frW fw
    conv => arg 2; whnf
    go_wp2_with (go_at_call 28; refine Calls.mono HSg.out ?_; rintro e w' ⟨rfl, rfl⟩)
    refine HX.out _ _ (RelI.mk rfl (A2.out.congr (fun x _ => ?_) (fun _ => Iff.rfl)))
    unfold WC.cnI
    rw [cb_sx, if_neg (fun h => by rw [← ES.out] at h; cases h.1)]
    rfl
  | true =>
    have hxs := hat.ok.inn.xsg hin esv.symm
    obtain ⟨xi, exi⟩ : ∃ xi, xi = c.V.X i := ⟨_, rfl⟩
    have EXI : Aside (xi = c.V.X i) := exi
    have hx := hkw.fx.vb.x hin W (Below.refl _ _)
    rw [← exi] at hxs hx
    have hxi : (xi : Int) < (c.V.ns : Int) := by omega
    have hc1 : cb (sx c.V.sg c.V.X xi) (i + 1) = cb (sx c.V.sg c.V.X xi) i + 1 := by rw [cb_sx, if_pos ⟨esv.symm, exi.symm⟩]
    have hc2 := cb_mono (sx c.V.sg c.V.X xi) hat.lo
    have hs0 := hat.small xi
    obtain ⟨dv, edv⟩ : ∃ dv, dv = c.cnI k (opens t) i xi := ⟨_, rfl⟩
    have ED : Aside (dv = c.cnI k (opens t) i xi ∧ cb (sx c.V.sg c.V.X xi) (i + 1) = cb (sx c.V.sg c.V.X xi) i + 1 ∧ cb (sx c.V.sg c.V.X xi) (c.st (c.ord k)) ≤ cb (sx c.V.sg c.V.X xi) i) := ⟨edv, hc1, hc2⟩
    have hdv : (dv : Int) < 20000000 := by omega
    have HXC : Aside (Calls Yba.prog 25 #[.int .i32 (i : Int), .pointer (some ⟨c.w.heap.size, 0, none⟩), .pointer (some ⟨c.w.heap.size + 2, 0, none⟩)] W fun e w' => e = .returned (.int .u32 (xi : Int)) ∧ Hid (Below W.heap.size W w') ∧ w'.cell? ⟨c.Se, xi, none⟩ = some (.int .i32 (dv : Int)) ∧ w'.frozen? ⟨c.Se, xi, none⟩ = false) := by
      refine hx.mono ?_
      rintro e1 w' ⟨rfl, hb⟩
      have hk2 := hkw.later hb
      refine ⟨rfl, hb, ?_, hk2.rc.frozen _⟩
      rw [hk2.rc.cell hxs, ← edv]
    have cx := hkw.fx.vb.env.cx
    simp only [VE.env] at cx
    clear hkw esv exi hx hc1 hc2 hs0 edv hat hnext
    unfold frW fw
    conv => arg 2; whnf
    go_wp2_with (first | (go_at_call 28; refine Calls.mono HSg.out ?_; rintro e w' ⟨rfl, rfl⟩) | (go_at_call 25; refine Calls.mono HXC.out ?_; rintro e w' ⟨rfl, hb, q1, q2⟩))
    obtain ⟨edv, hc1, hc2⟩ := ED.out
    have hk3 := ((A2.out.later hb.out).setC HC.out.ok xi (dv + 1))
    rw [show ((dv + 1 : Nat) : Int) = (dv : Int) + 1 by omega] at hk3
    refine HX.out _ _ (RelI.mk rfl (hk3.congr (fun x _ => ?_) (fun _ => Iff.rfl)))
    by_cases ex : x = xi
    · subst ex
      rw [upd_same, edv]
      unfold WC.cnI
      omega
    · rw [upd_ne ex]
      unfold WC.cnI
      rw [cb_sx, if_neg (fun h => ex (by rw [← h.2, EXI.out]))]
      rfl
end Go.Proofs.Ybulkexnju.W
