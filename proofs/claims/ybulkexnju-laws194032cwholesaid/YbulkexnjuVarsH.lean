/-
  watchedVars: a block is taken back.
-/
import Derived.Test.YbulkexnjuVarsG
namespace Go.Proofs.Ybulkexnju.W
open Go.RowKit Go.Proofs.Ybulkexnju.G
set_option linter.unusedVariables false
set_option maxRecDepth 100000

theorem i32_not (n : Int) (h0 : -2147483648 ≤ n) (h1 : n < 2147483648) : bits BinOp.xor IntKind.i32 (-1) n = -n - 1 := by
  show IntKind.i32.wrap ((BitVec.ofInt 32 (-1) ^^^ BitVec.ofInt 32 n).toNat : Int) = _
  have e1 : BitVec.ofInt 32 (-1) = BitVec.allOnes 32 := by decide
  rw [e1, BitVec.allOnes_xor, BitVec.toNat_not, BitVec.toNat_ofInt, IntKind.wrap_i32]
  omega

theorem VB.sets {V : VE} {w W : World} (h : VB V w W) {j : Nat} (hj : j < V.n) : Calls Yba.prog 28 #[.int .i32 (j : Int), .pointer (some ⟨w.heap.size + 1, 0, none⟩)] W fun e w'' => e = .returned (.bool (V.sg j)) ∧ w'' = W :=
  sets_any (V.env w.heap.size) (w.heap.size + 5) j W h.env hj
theorem VB.reads {V : VE} {w W : World} (h : VB V w W) {j : Nat} (hj : j < V.n) : Calls Yba.prog 27 #[.int .i32 (j : Int), .pointer (some ⟨w.heap.size + 1, 0, none⟩)] W fun e w'' => e = .returned (.bool (V.rd j)) ∧ w'' = W :=
  reads_any (V.env w.heap.size) (w.heap.size + 5) j W h.env hj

theorem VE.In.xsg {V : VE} {w : World} (h : V.In w) {j : Nat} (hj : j < V.n) (hs : V.sg j = true) : V.X j < V.ns := by
  refine h.xns j hj ?_
  unfold VE.sg isSg at hs
  have := h.kd9 j hj
  rcases kd_cases this with e | e | e | e | e | e | e | e | e <;> rw [e] at hs ⊢ <;> first | omega | (simp [opc] at hs)

theorem VE.In.xrd {V : VE} {w : World} (h : V.In w) {j : Nat} (hj : j < V.n) (hs : V.rd j = true) : V.X j < V.ns := by
  refine h.xns j hj ?_
  unfold VE.rd isRd at hs
  have := h.kd9 j hj
  rcases kd_cases this with e | e | e | e | e | e | e | e | e <;> rw [e] at hs ⊢ <;> first | omega | (simp [opc] at hs)

/-- the counts stay small -/
theorem WC.small {c : WC} (hc : c.Ok) {vis : Nat → Bool} {t : List Int} (hT : TInv c.K (EN c.sc c.ord c.K) c.I vis t) (x : Nat) : c.cnt (opens t) x ≤ 17000000 := by
  have h1 := hT.len
  have h2 := opens_len t
  have hk := hc.tr.kb
  have h3 : sumO c.st c.ord c.V.sg c.V.X x (opens t) ≤ (opens t).length * 4096 := sumO_le (fun m hm => ?_)
  · have h4 : (opens t).length * 4096 ≤ 4096 * 4096 := Nat.mul_le_mul_right 4096 (by omega)
    unfold WC.cnt
    split <;> omega
  · have hm' : ∃ e, e ∈ t ∧ e < 0 ∧ (-e - 1).toNat = m := by
      clear hT h1 h2
      induction t with
      | nil => cases hm
      | cons e t ih =>
        simp only [opens] at hm
        by_cases ce : e < 0
        · rw [if_pos ce] at hm
          rcases List.mem_cons.1 hm with h | h
          · exact ⟨e, List.mem_cons_self, ce, h.symm⟩
          · obtain ⟨e', a, b, d⟩ := ih h
            exact ⟨e', List.mem_cons_of_mem _ a, b, d⟩
        · rw [if_neg ce] at hm
          obtain ⟨e', a, b, d⟩ := ih hm
          exact ⟨e', List.mem_cons_of_mem _ a, b, d⟩
    obtain ⟨e, e1, e2, e3⟩ := hm'
    obtain ⟨m', m1, m2, _⟩ := hT.opn e e1 e2
    obtain rfl : m = m' := by omega
    have h5 := hc.tr.dom.oN m m2
    have h6 := hc.tr.made.le (show c.ord m + 1 ≤ cb c.ld c.V.n by omega)
    have := hc.inn.n4
    omega

set_option maxHeartbeats 8000000 in
theorem walk_undo {c : WC} (hc : c.Ok) {Q : Exit → Act → World → Prop} {k : Nat} {t : List Int} {vis : Nat → Bool} (hnext : ∀ a W, RelW c (2 * cb (fun k => !vis k) c.K + (opens t).length) a W → Q (.exit 17) a W) :
    ∀ a W, RelE c (-(k : Int) - 1) t vis a W → U7.wp Yba.prog Q a W := by
  rintro a W ⟨x, v37, rfl, hT, hkw⟩
  have HC : Aside c.Ok := hc
  have HX : Aside (∀ a W, RelW c (2 * cb (fun k => !vis k) c.K + (opens t).length) a W → Q (.exit 17) a W) := hnext
  have hkK : k < c.K := by
    obtain ⟨m, m1, m2, _⟩ := hT.opn _ List.mem_cons_self (by omega)
    omega
  have hT' := hT.undo (by omega)
  have hsm := WC.small hc hT'
  have hn4 := hc.inn.n4
  have hkb := hc.tr.kb
  have hob := hc.tr.dom.oN k hkK
  rw [← hc.nb] at hob
  have hinc := hc.tr.made.inc (b := c.ord k) (by rw [← hc.nb]; exact hob)
  have hle := hc.tr.made.le (b := c.ord k + 1) (by rw [← hc.nb]; omega)
  have hnb := hc.tr.nb
  rw [← hc.nb] at hnb
  obtain ⟨o, eo⟩ : ∃ o, o = c.ord k := ⟨_, rfl⟩
  obtain ⟨s, es⟩ : ∃ s, s = c.st o := ⟨_, rfl⟩
  obtain ⟨e, ee⟩ : ∃ e, e = c.st (o + 1) := ⟨_, rfl⟩
  rw [← eo, ← es, ← ee] at hinc
  rw [← eo, ← ee] at hle
  rw [← eo] at hob
  have E : Aside (o = c.ord k ∧ s = c.st o ∧ e = c.st (o + 1)) := ⟨eo, es, ee⟩
  have hki : (k : Int) < (c.K : Int) := by omega
  have hobi : (o : Int) < (c.NB : Int) + 1 := by omega
  have hobi2 : (o : Int) + 1 < (c.NB : Int) + 1 := by omega
  have hobi3 : (o : Int) < 4096 := by omega
  have hxor : bits BinOp.xor IntKind.i32 (-1) (-(k : Int) - 1) = (k : Int) := by rw [i32_not _ (by omega) (by omega)]; omega
  have cell1 : ∀ wr : World, FX c.V c.w c.NB c.St c.go c.F c.Se c.st c.K c.ord c.fst c.at_ c.T wr → wr.cell? ⟨c.go, k, none⟩ = some (.int .i32 (o : Int)) ∧ wr.cell? ⟨c.St, o, none⟩ = some (.int .i32 (s : Int)) ∧ wr.cell? ⟨c.St, o + 1, none⟩ = some (.int .i32 (e : Int)) := by
    intro wr h
    rw [eo, es, ee, eo]
    exact ⟨h.ro k hkK, h.rs _ (by omega), h.rs _ (by omega)⟩
  obtain ⟨c1, c2, c3⟩ := cell1 W hkw.fx
  have A : Aside (KW c (c.cnt (opens ((-(k : Int) - 1) :: t))) (todoV t) t.length (c.Fnd vis) v37 W ∧ TInv c.K (EN c.sc c.ord c.K) c.I vis t ∧ ∀ wr : World, FX c.V c.w c.NB c.St c.go c.F c.Se c.st c.K c.ord c.fst c.at_ c.T wr → wr.cell? ⟨c.go, k, none⟩ = some (.int .i32 (o : Int)) ∧ wr.cell? ⟨c.St, o, none⟩ = some (.int .i32 (s : Int)) ∧ wr.cell? ⟨c.St, o + 1, none⟩ = some (.int .i32 (e : Int))) := ⟨hkw, hT', cell1⟩
  have HS : Aside (∀ x, c.cnt (opens t) x ≤ 17000000) := hsm
  obtain ⟨kx, ekx⟩ : ∃ kx : Int, kx = -(k : Int) - 1 := ⟨_, rfl⟩
  rw [← ekx] at A hxor ⊢
  have EK : Aside (kx = -(k : Int) - 1) := ekx
  clear hkw hT hT' hsm cell1 eo es ee hc hnext ekx
  unfold frW fw
  conv => arg 2; whnf
  conv => arg 2; unfold U7
  conv => arg 2; whnf
  go_wp2
  clear c1 c2 c3
  go_loopg [40] (e - s) (fun gk s40 wr => ∃ i : Nat, s ≤ i ∧ i ≤ e ∧ gk = e - i ∧ s40 = .int .i32 (i : Int) ∧ KW c (fun x => c.cnt (opens t) x + (cb (sx c.V.sg c.V.X x) e - cb (sx c.V.sg c.V.X x) i)) (todoV t) t.length (c.Fnd vis) v37 wr)
  case atStart =>
    obtain ⟨eo, es, ee⟩ := E.out
    obtain ⟨hkw, hT, _⟩ := A.out
    refine ⟨s, Nat.le_refl _, by omega, rfl, rfl, hkw.congr (fun x _ => ?_) (fun _ => Iff.rfl)⟩
    rw [EK.out, opens_neg]
    unfold WC.cnt
    simp only [sumO]
    rw [← eo, ← es, ← ee]
    omega
  case round =>
    obtain ⟨i, hi1, hi2, rfl, rfl, hkw⟩ := hrel
    obtain ⟨c1, c2, c3⟩ := A.out.2.2 wr hkw.fx
    by_cases hlt : i < e
    · have hie : (i : Int) < (e : Int) := by omega
      have hin : i < c.V.n := by omega
      have hi4 : (i : Int) < 4096 := by omega
      have HSg : Aside _ := hkw.fx.vb.sets hin
      have A2 : Aside (KW c (fun x => c.cnt (opens t) x + (cb (sx c.V.sg c.V.X x) e - cb (sx c.V.sg c.V.X x) i)) (todoV t) t.length (c.Fnd vis) v37 wr) := hkw
      obtain ⟨sv, esv⟩ : ∃ sv, sv = c.V.sg i := ⟨_, rfl⟩
      rw [← esv] at HSg
      have ES : Aside (sv = c.V.sg i) := esv
      cases sv with
      | false =>
        clear hkw esv
        go_wp2_with (go_at_call 28; refine Calls.mono HSg.out ?_; rintro e w' ⟨rfl, rfl⟩)
        go_roundg (e - (i + 1))
        case measure => omega
        case rel =>
          refine ⟨i + 1, by omega, by omega, rfl, by go_num, A2.out.congr (fun x _ => ?_) (fun _ => Iff.rfl)⟩
          rw [cb_sx, if_neg (fun h => by rw [← ES.out] at h; cases h.1)]
          rfl
      | true =>
        have hxs := HC.out.inn.xsg hin esv.symm
        obtain ⟨xi, exi⟩ : ∃ xi, xi = c.V.X i := ⟨_, rfl⟩
        have EXI : Aside (xi = c.V.X i) := exi
        have hx := hkw.fx.vb.x hin wr (Below.refl _ _)
        rw [← exi] at hxs hx
        have hxi : (xi : Int) < (c.V.ns : Int) := by omega
        have hc1 : cb (sx c.V.sg c.V.X xi) (i + 1) = cb (sx c.V.sg c.V.X xi) i + 1 := by rw [cb_sx, if_pos ⟨esv.symm, exi.symm⟩]
        have hc2 := cb_mono (sx c.V.sg c.V.X xi) (show i + 1 ≤ e by omega)
        have hc3 := cb_le (sx c.V.sg c.V.X xi) e
        have hs0 := HS.out xi
        obtain ⟨dv, edv⟩ : ∃ dv, dv + 1 = c.cnt (opens t) xi + (cb (sx c.V.sg c.V.X xi) e - cb (sx c.V.sg c.V.X xi) i) := ⟨c.cnt (opens t) xi + (cb (sx c.V.sg c.V.X xi) e - cb (sx c.V.sg c.V.X xi) i) - 1, by omega⟩
        have ED : Aside (dv + 1 = c.cnt (opens t) xi + (cb (sx c.V.sg c.V.X xi) e - cb (sx c.V.sg c.V.X xi) i) ∧ cb (sx c.V.sg c.V.X xi) (i + 1) = cb (sx c.V.sg c.V.X xi) i + 1 ∧ cb (sx c.V.sg c.V.X xi) (i + 1) ≤ cb (sx c.V.sg c.V.X xi) e) := ⟨edv, hc1, hc2⟩
        have hdv : (dv : Int) < 20000000 := by omega
        have HXC : Aside (Calls Yba.prog 25 #[.int .i32 (i : Int), .pointer (some ⟨c.w.heap.size, 0, none⟩), .pointer (some ⟨c.w.heap.size + 2, 0, none⟩)] wr fun e w' => e = .returned (.int .u32 (xi : Int)) ∧ Hid (Below wr.heap.size wr w') ∧ w'.cell? ⟨c.Se, xi, none⟩ = some (.int .i32 ((dv : Int) + 1)) ∧ w'.frozen? ⟨c.Se, xi, none⟩ = false) := by
          refine hx.mono ?_
          rintro e1 w' ⟨rfl, hb⟩
          have hk2 := hkw.later hb
          refine ⟨rfl, hb, ?_, hk2.rc.frozen _⟩
          rw [hk2.rc.cell hxs, ← edv]
          congr 2
        have cx := hkw.fx.vb.env.cx
        simp only [VE.env] at cx
        clear hkw esv exi hx hc1 hc2 hc3 hs0 edv
        go_wp2_with (first | (go_at_call 28; refine Calls.mono HSg.out ?_; rintro e w' ⟨rfl, rfl⟩) | (go_at_call 25; refine Calls.mono HXC.out ?_; rintro e w' ⟨rfl, hb, q1, q2⟩))
        go_roundg (e - (i + 1))
        case measure => omega
        case rel =>
          obtain ⟨edv, hc1, hc2⟩ := ED.out
          refine ⟨i + 1, by omega, by omega, rfl, by go_num, ((A2.out.later hb.out).setC HC.out xi dv).congr (fun x _ => ?_) (fun _ => Iff.rfl)⟩
          by_cases ex : x = xi
          · subst ex
            rw [upd_same]
            omega
          · rw [upd_ne ex, cb_sx, if_neg (fun h => ex (by rw [← h.2, EXI.out]))]
            rfl
    · obtain rfl : i = e := by omega
      have A2 : Aside (KW c (fun x => c.cnt (opens t) x + (cb (sx c.V.sg c.V.X x) i - cb (sx c.V.sg c.V.X x) i)) (todoV t) t.length (c.Fnd vis) v37 wr) := hkw
      clear hkw hlt
      go_wp2
      refine HX.out _ _ (RelW.mk rfl rfl rfl A.out.2.1 (A2.out.congr (fun x _ => by omega) (fun _ => Iff.rfl)))
end Go.Proofs.Ybulkexnju.W
