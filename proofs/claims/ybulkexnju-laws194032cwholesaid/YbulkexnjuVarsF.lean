/-
  watchedVars: dominators and grouped are called, the row of counts is made and its parameters set.
-/
import Derived.Test.YbulkexnjuVarsE
namespace Go.Proofs.Ybulkexnju.W
open Go.RowKit Go.Proofs.Ybulkexnju.G
set_option linter.unusedVariables false
set_option maxRecDepth 100000

theorem one_set (W : World) (b i : Nat) (v : Value) : Below b W (W.setCell ⟨b, i, none⟩ v) := (Below.refl b W).setCell (p := ⟨b, i, none⟩) (Nat.le_refl b) v

/-- the keys that grouped is handed -/
def keyI (I : Nat → Nat) (i : Nat) : Int := if i = 0 then -1 else (I i : Int)

/-- what is fixed: starts, order, first, kids; what changes lies at M and above -/
structure FX (V : VE) (w : World) (NB St go F M : Nat) (st : Nat → Nat) (K : Nat) (ord : Nat → Nat) (fst at_ : Nat → Int) (T : Nat) (W : World) : Prop where
  vb : VB V w W
  rs : ∀ b, b ≤ NB → W.cell? ⟨St, b, none⟩ = some (.int .i32 (st b : Int))
  ro : ∀ k, k < K → W.cell? ⟨go, k, none⟩ = some (.int .i32 (ord k : Int))
  rf : ∀ k, k < K + 1 → W.cell? ⟨F, k, none⟩ = some (.int .i32 (fst k))
  rk : ∀ i, i < T → W.cell? ⟨F + 1, i, none⟩ = some (.int .i32 (at_ i))
  m5 : w.heap.size + 5 ≤ M
  ls : St < M
  lo : go < M
  lf : F + 1 < M

theorem FX.later {V : VE} {w : World} {NB St go F M : Nat} {st : Nat → Nat} {K : Nat} {ord : Nat → Nat} {fst at_ : Nat → Int} {T : Nat} {W W' : World} (h : FX V w NB St go F M st K ord fst at_ T W) (hb : Below M W W') : FX V w NB St go F M st K ord fst at_ T W' :=
  ⟨h.vb.later (hb.mono h.m5), fun i hi => (hb.cell h.ls).trans (h.rs i hi), fun i hi => (hb.cell h.lo).trans (h.ro i hi), fun i hi => (hb.cell (Nat.lt_of_succ_lt h.lf)).trans (h.rf i hi), fun i hi => (hb.cell h.lf).trans (h.rk i hi), h.m5, h.ls, h.lo, h.lf⟩

/-- the tree of dominators -/
structure TR (V : VE) (ld : Nat → Bool) (st : Nat → Nat) (sc : Nat → Int) (K : Nat) (ord I : Nat → Nat) (fst at_ : Nat → Int) (T : Nat) : Prop where
  made : Made V.n V.kd V.tg ld st sc
  dom : DomOut (cb ld V.n) sc K ord I
  grp : Grp K K (keyI I) fst at_
  tps : T = ps (keyI I) K K
  kb : K ≤ 4096
  nb : cb ld V.n ≤ 4096

/-- the row of counts stands: region 73 is next -/
def RelV6 (V : VE) (w : World) (a : Act) (W : World) : Prop :=
  ∃ (x : Nat → Value) (St go F Se NB K T : Nat) (ld : Nat → Bool) (st : Nat → Nat) (sc : Nat → Int) (ord I : Nat → Nat) (fst at_ : Nat → Int),
    a = ⟨(fv x w.heap.size V.n (x 16) (x 19) (x 22) (.slice (some ⟨St, 0, none⟩) (NB + 1) (NB + 1)) (x 26) (.slice (some ⟨go, 0, none⟩) K NB) (.slice (some ⟨F, 0, none⟩) (K + 1) (K + 2)) (.slice (some ⟨F + 1, 0, none⟩) T T) (.slice (some ⟨Se, 0, none⟩) V.ns V.ns) (x 37) (x 38)).toArray, []⟩ ∧
    NB = cb ld V.n ∧ FX V w NB St go F Se st K ord fst at_ T W ∧ W.rowIs Se 21 V.ns (fun i => .int .i32 (if i < V.np then 1 else 0)) ∧ TR V ld st sc K ord I fst at_ T

theorem RelV6.mk {V : VE} {w : World} {l : List Value} {W : World} {St go F Se NB K T : Nat} {ld : Nat → Bool} {st : Nat → Nat} {sc : Nat → Int} {ord I : Nat → Nat} {fst at_ : Nat → Int}
    (hf : l = fv (nth l) w.heap.size V.n (nth l 16) (nth l 19) (nth l 22) (.slice (some ⟨St, 0, none⟩) (NB + 1) (NB + 1)) (nth l 26) (.slice (some ⟨go, 0, none⟩) K NB) (.slice (some ⟨F, 0, none⟩) (K + 1) (K + 2)) (.slice (some ⟨F + 1, 0, none⟩) T T) (.slice (some ⟨Se, 0, none⟩) V.ns V.ns) (nth l 37) (nth l 38))
    (h1 : NB = cb ld V.n) (h2 : FX V w NB St go F Se st K ord fst at_ T W) (h3 : W.rowIs Se 21 V.ns (fun i => .int .i32 (if i < V.np then 1 else 0))) (h4 : TR V ld st sc K ord I fst at_ T) : RelV6 V w ⟨l.toArray, []⟩ W :=
  ⟨nth l, St, go, F, Se, NB, K, T, ld, st, sc, ord, I, fst, at_, by rw [← hf], h1, h2, h3, h4⟩

set_option maxHeartbeats 8000000 in
theorem vars_tree {V : VE} {w : World} (hin : V.In w) (hnext : ∀ a W, RelV6 V w a W → (tail11 23).wp Yba.prog (bodyPost Yba.prog Yba.f11 (varsR V w)) a W) :
    ∀ a W, RelV5 V w a W → (tail11 19).wp Yba.prog (bodyPost Yba.prog Yba.f11 (varsR V w)) a W := by
  rintro a W ⟨x, Bk, St, Su, ld, st, sc, rfl, hnw, hrow, hmade⟩
  have hn4 := hin.n4
  have hns := hin.ns8
  have hnp := hin.nps
  have HX : Aside (∀ a W, RelV6 V w a W → (tail11 23).wp Yba.prog (bodyPost Yba.prog Yba.f11 (varsR V w)) a W) := hnext
  unfold fv
  conv => arg 2; whnf
  have hNn := cb_le ld V.n
  obtain ⟨N, eN⟩ : ∃ N, N = cb ld V.n := ⟨_, rfl⟩
  have HD : Aside (Calls Yba.prog 30 #[.slice (some ⟨Su, 0, none⟩) (2 * N) (2 * N)] W (domR N sc W)) := by
    refine dom_any ⟨?_, by omega, fun e he => ?_, fun e he => ?_⟩
    · rw [eN]; exact Nat.lt_of_le_of_lt (Nat.zero_le _) (cb_lt hmade.ld0 hmade.n0)
    · rw [eN] at he ⊢; exact hmade.bound he
    · exact hrow.cell (by rw [← eN]; exact he)
  rw [← eN] at hNn ⊢
  have A : Aside (NW V w ld Bk St Su st W ∧ W.rowIs Su 21 (2 * cb ld V.n) (fun e => .int .i32 (sc e)) ∧ Made V.n V.kd V.tg ld st sc ∧ N = cb ld V.n) := ⟨hnw, hrow, hmade, eN⟩
  obtain ⟨M2, hM2⟩ : ∃ M2 : Nat, M2 = 2 * N := ⟨_, rfl⟩
  rw [← hM2] at HD ⊢
  clear hnw hrow hmade eN hin hnext hM2
  go_wp2_with (go_at_call 30; refine Calls.mono HD.out ?_; rintro e w1 ⟨K, ord, I, go, gi, rfl, hd, ho, hi, l1, l2, hb⟩)
  have HA : Aside (DomOut N sc K ord I ∧ (∀ i, i < K → w1.cell? ⟨go, i, none⟩ = some (.int .i32 (ord i : Int))) ∧ W.heap.size ≤ go ∧ Below W.heap.size W w1 ∧ K ≤ N) := ⟨hd, ho, l1, hb, hd.kN⟩
  have HG : Aside (Calls Yba.prog 31 #[.int .i64 K, .slice (some ⟨gi, 0, none⟩) K K] w1 fun e w' => e = .returned (.tuple #[.slice (some ⟨w1.heap.size, 0, none⟩) (K + 1) (K + 2), .slice (some ⟨w1.heap.size + 1, 0, none⟩) (ps (keyI I) K K) (ps (keyI I) K K)]) ∧
      Hid ((∃ fst at_ : Nat → Int, w'.rowIs w1.heap.size 21 (K + 2) (fun i => .int .i32 (fst i)) ∧ w'.rowIs (w1.heap.size + 1) 21 (ps (keyI I) K K) (fun i => .int .i32 (at_ i)) ∧ Grp K K (keyI I) fst at_) ∧ Below w1.heap.size w1 w') ∧
      w'.cell? ⟨w.heap.size, 0, none⟩ = some (.pointer (some ⟨V.gf, 0, none⟩)) ∧ w'.cell? ⟨V.gf, 2, none⟩ = some (.slice (some ⟨V.gs, 0, none⟩) V.ns V.ns) ∧
      (w'.alloc (.cells (madeCells #[.int .i32 0] V.ns) 21)).cell? ⟨w.heap.size, 0, none⟩ = some (.pointer (some ⟨V.gf, 0, none⟩)) ∧ (w'.alloc (.cells (madeCells #[.int .i32 0] V.ns) 21)).cell? ⟨V.gf, 1, none⟩ = some (.int .i64 V.np)) := by
    have hkN := hd.kN
    obtain ⟨p, hp⟩ := hd.doms
    refine (grouped_any K K gi K (keyI I) w1 (by omega) (by omega) (fun j hj => ?_) (fun j hj => ?_)).mono ?_
    · unfold keyI
      by_cases c : j = 0
      · rw [if_pos c]; omega
      · rw [if_neg c]
        have := hp.ilt j (by omega) hj
        omega
    · exact hi j hj
    · rintro e w' ⟨rfl, hg, hb2⟩
      have hvb := A.out.1.vb
      have hv2 : VB V w w' := (hvb.later (hb.mono hvb.env.big)).later (hb2.mono (Nat.le_trans hvb.env.big hb.size))
      have hv3 : VB V w (w'.alloc (.cells (madeCells #[.int .i32 0] V.ns) 21)) := hv2.later ((Below.refl _ _).alloc hv2.env.big _)
      exact ⟨rfl, ⟨hg, hb2⟩, hv2.env.cf, hv2.env.fs, hv3.env.cf, hv3.env.fp⟩
  clear hd ho hi l1 l2 hb HD
  have hmk := make_lc .i64 .i64 V.ns V.ns (by omega) (by omega)
  obtain ⟨T, eT⟩ : ∃ T, T = ps (keyI I) K K := ⟨_, rfl⟩
  have ET : Aside (T = ps (keyI I) K K) := eT
  rw [← eT] at HG
  clear eT
  go_wp2_with (go_at_call 31; refine Calls.mono HG.out ?_; rintro e w2 ⟨rfl, hg, q1, q2, q3, q4⟩)
  clear hmk q1 q2 q3 q4
  obtain ⟨W1, hW1⟩ : ∃ W1, W1 = w2.alloc (.cells (madeCells #[.int .i32 0] V.ns) 21) := ⟨_, rfl⟩
  obtain ⟨Se, eSe⟩ : ∃ Se, Se = w2.heap.size := ⟨_, rfl⟩
  obtain ⟨F, eF⟩ : ∃ F, F = w1.heap.size := ⟨_, rfl⟩
  rw [← hW1, ← eSe, ← eF]
  have HF : Aside (∃ fst at_ : Nat → Int, FX V w N St go F Se st K ord fst at_ T W1 ∧ W1.rowIs Se 21 V.ns (fun _ => .int .i32 0) ∧ TR V ld st sc K ord I fst at_ T) := by
    obtain ⟨hnw, hrow, hmade, eN⟩ := A.out
    obtain ⟨hd, ho, l1, hb, hKN⟩ := HA.out
    obtain ⟨⟨fst, at_, r1, r2, hg⟩, hb2⟩ := hg.out
    have hbig := hnw.vb.env.big
    have hsu := hrow.lt
    have h12 : W.heap.size ≤ w1.heap.size := hb.size
    have h23 : w1.heap.size ≤ w2.heap.size := hb2.size
    have r2l := r2.lt
    have hv1 := hnw.vb.later (hb.mono hbig)
    have hv2 := hv1.later (hb2.mono hv1.env.big)
    have hv3 : VB V w W1 := by rw [hW1]; exact hv2.later ((Below.refl _ _).alloc hv2.env.big _)
    have h3 : Below w2.heap.size w2 W1 := by rw [hW1]; exact (Below.refl _ _).alloc (Nat.le_refl _) _
    have lgo : go < w1.heap.size := World.block_lt_of_cell? _ _ (ho 0 (by have := hd.k1; omega))
    have lst := hnw.ls
    refine ⟨fst, at_, ⟨hv3, ?_, ?_, ?_, ?_, by have := hv2.env.big; omega, by omega, by omega, by omega⟩, by rw [hW1, eSe]; exact madeRow w2 V.ns, hmade, by rw [← eN]; exact hd, hg, ET.out, by omega, by omega⟩
    · intro b hbN
      have : W1.cell? ⟨St, b, none⟩ = W.cell? ⟨St, b, none⟩ := ((h3.cell (show St < w2.heap.size by omega)).trans (hb2.cell (show St < w1.heap.size by omega))).trans (hb.cell (show St < W.heap.size by omega))
      rw [this]
      exact hnw.rs b (by rw [← eN]; exact hbN)
    · intro k hk
      have : W1.cell? ⟨go, k, none⟩ = w1.cell? ⟨go, k, none⟩ := (h3.cell (show go < w2.heap.size by omega)).trans (hb2.cell (show go < w1.heap.size by omega))
      rw [this]
      exact ho k hk
    · intro k hk
      have : W1.cell? ⟨F, k, none⟩ = w2.cell? ⟨F, k, none⟩ := h3.cell (show F < w2.heap.size by omega)
      rw [this, eF]
      exact r1.cell (by omega)
    · intro i hi
      have : W1.cell? ⟨F + 1, i, none⟩ = w2.cell? ⟨F + 1, i, none⟩ := h3.cell (show F + 1 < w2.heap.size by omega)
      rw [this, eF]
      exact r2.cell hi
  have EN : Aside (N = cb ld V.n) := A.out.2.2.2
  clear A HA hg hW1 eSe eF
  obtain ⟨fst, at_, HF1⟩ := HF.out
  have HF2 : Aside (FX V w N St go F Se st K ord fst at_ T W1 ∧ W1.rowIs Se 21 V.ns (fun _ => .int .i32 0) ∧ TR V ld st sc K ord I fst at_ T) := HF1
  clear HF1 HF HG
  rename_i hK
  have hK' : ∀ a W, RelV6 V w a W → _ := fun a W h => hK a W (HX.out a W h)
  clear hK
  go_loopg [227] V.np (fun gk s227 wr => ∃ (j : Nat), j ≤ V.np ∧ gk = V.np - j ∧ s227 = .int .i64 (j : Int) ∧ FX V w N St go F Se st K ord fst at_ T wr ∧ wr.rowIs Se 21 V.ns (fun i => .int .i32 (if i < j then 1 else 0)))
  case atStart => exact ⟨0, by omega, rfl, rfl, HF2.out.1, HF2.out.2.1.congr (fun i _ => by simp)⟩
  case round =>
    obtain ⟨j, hj, rfl, rfl, hfx, hrow⟩ := hrel
    have A : Aside (FX V w N St go F Se st K ord fst at_ T wr ∧ wr.rowIs Se 21 V.ns (fun i => .int .i32 (if i < j then 1 else 0))) := ⟨hfx, hrow⟩
    by_cases hlt : j < V.np
    · have hi4 : (j : Int) < (V.np : Int) := by omega
      have hi5 : (j : Int) < (V.ns : Int) := by omega
      have c1 := hrow.cell (show j < V.ns by omega)
      have f1 := hrow.frozen j
      clear hfx hrow
      go_wp2
      go_roundg (V.np - (j + 1))
      case measure => omega
      case rel =>
        obtain ⟨hfx, hrow⟩ := A.out
        refine ⟨j + 1, by omega, rfl, by go_num, hfx.later (one_set _ _ _ _), (hrow.set j _).congr (fun i _ => ?_)⟩
        by_cases c : i = j
        · rw [if_pos c, if_pos (by omega)]
        · rw [if_neg c]
          by_cases c2 : i < j
          · rw [if_pos c2, if_pos (by omega)]
          · rw [if_neg c2, if_neg (by omega)]
    · obtain rfl : j = V.np := by omega
      clear hfx hrow hlt
      go_wp2
      exact RelV6.mk rfl EN.out A.out.1 A.out.2 HF2.out.2.2
end Go.Proofs.Ybulkexnju.W
