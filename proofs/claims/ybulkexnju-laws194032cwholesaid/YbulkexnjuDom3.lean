/-
  dominators: from the walk's end to region 31.
-/
import Derived.Test.YbulkexnjuDomD
namespace Go.Proofs.Ybulkexnju.W
open Go.RowKit Go.Proofs.Ybulkexnju.G
set_option linter.unusedVariables false
set_option maxRecDepth 100000

/-- behind region 31: region 32 is next -/
def Rel5 (NB g : Nat) (sc : Nat → Int) (w : World) (a : Act) (W : World) : Prop :=
  ∃ (x s : Nat → Value) (bo bq S T K L : Nat) (b : Nat → Nat) (num : Nat → Int) (ord par tv tj : Nat → Nat) (fst at_ : Nat → Int),
    a = ⟨(fr31 x (.slice (some ⟨bo, 0, none⟩) K NB) (.slice (some ⟨w.heap.size, 0, none⟩) NB NB) (.slice (some ⟨bq, 0, none⟩) K NB) (.int .i64 (K : Int)) (.slice (some ⟨S, 0, none⟩) (K + 1) (K + 2)) (.slice (some ⟨S + 1, 0, none⟩) T T) s).toArray, []⟩ ∧
    s 16 = .pointer (some ⟨b 6, 0, none⟩) ∧ s 17 = .pointer (some ⟨b 7, 0, none⟩) ∧ s 18 = .pointer (some ⟨b 8, 0, none⟩) ∧ DG NB K sc num ord par tv tj fst at_ bo bq S T w L W ∧ Six K L b W

/-- region 31 out of a frame that is written out -/
theorem reg31_at {Q : Exit → Act → World → Prop} {l : List Value} {v2 v4 v6 v14 v15 : Value} {K L : Nat} {W0 : World} (hK : K ≤ 1048576) (hL : L ≤ W0.heap.size) (hf : l = fr31 (nth l) v2 v4 v6 (.int .i64 (K : Int)) v14 v15 (nth l))
    (hq : ∀ x s b W', Six K L b W' → Below L W0 W' → s 16 = .pointer (some ⟨b 6, 0, none⟩) → s 17 = .pointer (some ⟨b 7, 0, none⟩) → s 18 = .pointer (some ⟨b 8, 0, none⟩) → Q .normal ⟨(fr31 x v2 v4 v6 (.int .i64 (K : Int)) v14 v15 s).toArray, []⟩ W') :
    reg31.wp Yba.prog Q ⟨l.toArray, []⟩ W0 := by
  rw [hf]
  exact reg31_wp hK hL (fun s b W' h1 h2 h3 h4 h5 => hq (nth l) s b W' h1 h2 h3 h4 h5)

theorem ownsRow_block {W W' : World} {base : Nat} {e : TypeId} {size b n c : Nat} {xs : List Value} (h : W.ownsRow base e size (.slice (some ⟨b, 0, none⟩) n c) n xs) (hb : W'.heap[b]? = W.heap[b]?) : W'.ownsRow base e size (.slice (some ⟨b, 0, none⟩) n c) n xs := by
  obtain ⟨h1, h2 | ⟨g, cap, cur, e0, e1, e2, e3⟩⟩ := h
  · exact ⟨h1, .inl h2⟩
  · injection e0 with e5 e6 e7
    injection e5 with e5
    injection e5 with e5
    subst e5; subst e7
    exact ⟨h1, .inr ⟨b, c, cur, rfl, e1, hb.trans e2, e3⟩⟩

set_option maxHeartbeats 4000000 in
theorem dom_to {NB g : Nat} {sc : Nat → Int} {w : World} (hin : DomIn NB g sc w) (hnext : ∀ a W, Rel5 NB g sc w a W → (tail30 11).wp Yba.prog (bodyPost Yba.prog Yba.f30 (domR NB sc w)) a W) :
    ∀ a W, Rel3 NB g sc w a W → (tail30 6).wp Yba.prog (bodyPost Yba.prog Yba.f30 (domR NB sc w)) a W := by
  rintro a W ⟨x, bo, bq, K, num, ord, par, tv, tj, rfl, hrow, ho, hq, hne, hbel, hinv⟩
  have hn0 := hin.n0
  have hnb := hin.nb
  have hin' : Aside (DomIn NB g sc w) := hin
  have hKN := hinv.kN
  obtain ⟨M, hM⟩ : ∃ M : Nat, M = 2 * NB := ⟨_, rfl⟩
  rw [← hM]
  have HM : Aside (M = 2 * NB) := hM
  have hM2 : M ≤ 8192 := by omega
  have HX : Aside (∀ a W, Rel5 NB g sc w a W → (tail30 11).wp Yba.prog (bodyPost Yba.prog Yba.f30 (domR NB sc w)) a W) := hnext
  unfold fr3
  conv => arg 2; whnf
  have hmk := make_lc .i64 .i64 M M (Nat.le_refl _) (by omega)
  have A : Aside (W.rowIs w.heap.size 21 NB (fun i => .int .i32 (num i)) ∧ W.ownsRow (w.heap.size + 1) 21 1 (.slice (some ⟨bo, 0, none⟩) K NB) K (wayV ord K) ∧ W.ownsRow (w.heap.size + 1) 21 1 (.slice (some ⟨bq, 0, none⟩) K NB) K (wayV par K) ∧ Below w.heap.size w W ∧ DInv NB sc num ord par K 0 tv tj) := ⟨hrow, ho, hq, hbel, hinv⟩
  clear hrow ho hq hne hbel hin hnext hM hinv
  go_wp2
  clear hmk
  go_loopg [138] M (fun gk s138 wr => ∃ j, j ≤ M ∧ gk = M - j ∧ s138 = .int .i64 j ∧ wr.rowIs W.heap.size 21 M (fun i => .int .i32 (if i < j then toI sc num i else 0)) ∧ Below W.heap.size W wr ∧ wr.heap.size = W.heap.size + 1)
  case atStart =>
    exact ⟨0, by omega, by omega, rfl, (madeRow W M).congr (fun i _ => by simp), (Below.refl _ _).alloc (Nat.le_refl _) _, by simp⟩
  case round =>
    obtain ⟨j, hj, rfl, rfl, hto, hbW, hsz⟩ := hrel
    obtain ⟨hrow, ho, hq, hbel, hinv⟩ := A.out
    by_cases hlt : j < M
    · have hji : (j : Int) < (M : Int) := by omega
      have hrl := hrow.lt
      have ct := hto.cell hlt
      have ft := hto.frozen j
      have hce : wr.cell? ⟨g, j, none⟩ = some (.int .i32 (sc j)) := cell_later (hbel.trans (hbW.mono (by omega))) (hin'.out.row j (by have := HM.out; omega))
      have hzb := hin'.out.bd j (by have := HM.out; omega)
      have hrow' := hrow.of_block (hbW.block _ hrl)
      have hgW : g ≠ W.heap.size := by
        have h1 := World.block_lt_of_cell? _ _ (hin'.out.row j (by have := HM.out; omega))
        have h2 := hbel.size
        simp at h1
        omega
      have hHW : w.heap.size ≠ W.heap.size := by omega
      obtain ⟨z, hz⟩ : ∃ z, z = sc j := ⟨_, rfl⟩
      rw [← hz] at hce hzb
      obtain ⟨j2, hj2⟩ : ∃ j2, j2 = j / 2 := ⟨_, rfl⟩
      have hj2N : j2 < NB := by have := HM.out; omega
      have hj2i : (j : Int) / 2 = (j2 : Int) := by omega
      have hj2Ni : (j2 : Int) < (NB : Int) := by omega
      have cn := hrow'.cell hj2N
      obtain ⟨t, et⟩ : ∃ t, t = num j2 := ⟨_, rfl⟩
      rw [← et] at cn
      have hgW2 : W.heap.size ≠ g := Ne.symm hgW
      have hHW2 : W.heap.size ≠ w.heap.size := Ne.symm hHW
      have A2 : Aside (wr.rowIs W.heap.size 21 M (fun i => .int .i32 (if i < j then toI sc num i else 0)) ∧ Below W.heap.size W wr ∧ wr.heap.size = W.heap.size + 1) := ⟨hto, hbW, hsz⟩
      have A3 : Aside (z = sc j ∧ j2 = j / 2 ∧ t = num j2) := ⟨hz, hj2, et⟩
      have fin : ∀ (v : Int) (X : World), v = toI sc num j → X.rowIs W.heap.size 21 M (fun i => if i = j then .int .i32 v else .int .i32 (if i < j then toI sc num i else 0)) → X.rowIs W.heap.size 21 M (fun i => .int .i32 (if i < j + 1 then toI sc num i else 0)) := by
        intro v X hv hX
        refine hX.congr (fun i _ => ?_)
        by_cases c : i = j
        · rw [if_pos c, if_pos (by omega), hv, c]
        · rw [if_neg c]
          by_cases c2 : i < j
          · rw [if_pos c2, if_pos (by omega)]
          · rw [if_neg c2, if_neg (by omega)]
      have F : Aside (∀ (v : Int) (X : World), v = toI sc num j → X.rowIs W.heap.size 21 M (fun i => if i = j then .int .i32 v else .int .i32 (if i < j then toI sc num i else 0)) → X.rowIs W.heap.size 21 M (fun i => .int .i32 (if i < j + 1 then toI sc num i else 0))) := fin
      clear fin
      by_cases hz0 : 0 ≤ z
      · by_cases ht0 : 0 ≤ t
        · obtain ⟨v, rfl⟩ : ∃ v : Nat, z = v := ⟨z.toNat, by omega⟩
          have hvN : v < NB := by omega
          have hvi : (v : Int) < (NB : Int) := by omega
          have cv := hrow'.cell hvN
          obtain ⟨u, eu⟩ : ∃ u, u = num v := ⟨_, rfl⟩
          rw [← eu] at cv
          have A4 : Aside (u = num v) := eu
          clear hto hbW hsz hrow ho hq hbel hinv hrow' hrl hz hj2 et eu A
          go_wp2
          go_roundg (M - (j + 1))
          case measure => omega
          case rel =>
            obtain ⟨hto, hbW, hsz⟩ := A2.out
            obtain ⟨hz, hj2, et⟩ := A3.out
            refine ⟨j + 1, by omega, rfl, by go_num, F.out u _ ?_ ((((hto.set j _).set j _)).congr (fun i _ => ?_)), (hbW.setCell (by simp) _).setCell (by simp) _, by simpa [World.setCell] using hsz⟩
            · unfold toI
              rw [if_pos ⟨by omega, by rw [← hj2, ← et]; exact ht0⟩, ← hz, A4.out]
              rfl
            · by_cases c : i = j
              · rw [if_pos c, if_pos c]
              · rw [if_neg c, if_neg c, if_neg c]
        · clear hto hbW hsz hrow ho hq hbel hinv hrow' hrl hz hj2 et A
          go_wp2
          go_roundg (M - (j + 1))
          case measure => omega
          case rel =>
            obtain ⟨hto, hbW, hsz⟩ := A2.out
            obtain ⟨hz, hj2, et⟩ := A3.out
            refine ⟨j + 1, by omega, rfl, by go_num, F.out (-1) _ ?_ (hto.set j _), hbW.setCell (by simp) _, by simpa [World.setCell] using hsz⟩
            unfold toI
            rw [if_neg (fun c => by have h2 := c.2; rw [← hj2, ← et] at h2; omega)]
      · clear hto hbW hsz hrow ho hq hbel hinv hrow' hrl hz hj2 et A
        go_wp2
        go_roundg (M - (j + 1))
        case measure => omega
        case rel =>
          obtain ⟨hto, hbW, hsz⟩ := A2.out
          obtain ⟨hz, hj2, et⟩ := A3.out
          refine ⟨j + 1, by omega, rfl, by go_num, F.out (-1) _ ?_ (hto.set j _), hbW.setCell (by simp) _, by simpa [World.setCell] using hsz⟩
          unfold toI
          rw [if_neg (fun c => by have h2 := c.1; rw [← hz] at h2; omega)]
    · obtain rfl : j = M := by omega
      have HG : Aside (∀ j', j' < j → -1 ≤ toI sc num j' ∧ toI sc num j' < K) := fun e he => toI_bd hinv (by have := HM.out; omega)
      have HC : Aside (∀ i, i < j → wr.cell? ⟨W.heap.size, i, none⟩ = some (.int .i32 (toI sc num i))) := fun i hi => by have := hto.cell hi; rw [if_pos hi] at this; exact this
      have hK1 := hinv.k1
      have A2 : Aside (wr.rowIs W.heap.size 21 j (fun i => .int .i32 (if i < j then toI sc num i else 0)) ∧ Below W.heap.size W wr ∧ wr.heap.size = W.heap.size + 1) := ⟨hto, hbW, hsz⟩
      clear hto hbW hsz hrow ho hq hbel hinv hlt
      go_wp2_with (go_at_call 31; refine (grouped_any K j W.heap.size j (toI sc num) _ (by omega) (by omega) HG.out HC.out).mono ?_; rintro e w' ⟨rfl, ⟨fst, at_, g1, g2, g3⟩, g4⟩)
      rename_i hK
      have hK' : ∀ a W, Rel5 NB g sc w a W → _ := fun a W h => hK a W (HX.out a W h)
      clear hK
      refine reg31_at (K := K) (L := w'.heap.size) (by omega) (Nat.le_refl _) rfl ?_
      intro x' s b W' six hb e6 e7 e8
      obtain ⟨hto, hbW, hsz⟩ := A2.out
      obtain ⟨hrow, ho, hq, hbel, hinv⟩ := A.out
      have hrl := hrow.lt
      have ho1 := (ho.lt bo rfl)
      have hq1 := (hq.lt bq rfl)
      have hM := HM.out
      have g2l := g2.lt
      have bl : ∀ k, k < W.heap.size → w'.heap[k]? = W.heap[k]? := fun k hk => (g4.block k (by omega)).trans (hbW.block k hk)
      refine hK' _ _ ⟨x', s, bo, bq, wr.heap.size, _, K, w'.heap.size, b, num, ord, par, tv, tj, fst, at_, rfl, e6, e7, e8, DG.below (W := w') ⟨hinv, hrow.of_block (bl _ hrl), ownsRow_block ho (bl _ ho1.2), ownsRow_block hq (bl _ hq1.2), g1, g2, by rw [← hM], by rw [← hM]; exact g3, by omega, by omega, by omega, by omega, Nat.le_refl _, hbel.trans ((hbW.mono (by omega)).trans (g4.mono (by omega)))⟩ hb, six⟩
end Go.Proofs.Ybulkexnju.W
