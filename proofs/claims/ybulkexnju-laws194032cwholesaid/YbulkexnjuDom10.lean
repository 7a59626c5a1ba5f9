/-
  dominators: the last pass, and the whole.
-/
import Derived.Test.YbulkexnjuDom9
namespace Go.Proofs.Ybulkexnju.W
open Go.RowKit Go.Proofs.Ybulkexnju.G
set_option linter.unusedVariables false
set_option maxRecDepth 100000

set_option maxHeartbeats 8000000 in
theorem dom_last {NB g : Nat} {sc : Nat → Int} {w : World} (hin : DomIn NB g sc w) :
    ∀ a W, Rel9 NB sc w a W → (tail30 17).wp Yba.prog (bodyPost Yba.prog Yba.f30 (domR NB sc w)) a W := by
  rintro a W ⟨x, bo, K, c0, c3, c8, num, ord, par, tv, tj, s, sm, idom, rfl, hinv, hs, ho, x0, r3, r8, hsm, hdone, n1, n2, n3, n4, n5, hbel⟩
  have hKN := hinv.kN
  have hK1 := hinv.k1
  have hnb := hin.nb
  have D := hinv.dfs
  have A : Aside (DInv NB sc num ord par K 0 tv tj ∧ Semi K (EN sc ord K) s ∧ W.ownsRow (w.heap.size + 1) 21 1 (.slice (some ⟨bo, 0, none⟩) K NB) K (wayV ord K) ∧ W.rowIs c0 57 1 (fun _ => .slice (some ⟨c3, 0, none⟩) K K) ∧ W.rowIs c3 21 K (fun i => .int .i32 (sm i)) ∧ W.rowIs c8 21 K (fun i => .int .i32 (idom i)) ∧ (∀ x, 0 < x → x < K → sm x = s x) ∧ (∀ v, 0 < v → v < K → Done par s v (idom v)) ∧ Below w.heap.size w W) := ⟨hinv, hs, ho, x0, r3, r8, hsm, hdone, hbel⟩
  have HI : Aside (DomIn NB g sc w) := hin
  unfold fr7
  conv => arg 2; whnf
  clear hinv hs ho x0 r3 r8 hsm hdone hbel hin D
  go_wp2
  go_loopg [31] (K - 1) (fun gk s31 wr => ∃ (j : Nat) (id : Nat → Int), 1 ≤ j ∧ j ≤ K ∧ gk = K - j ∧ s31 = .int .i64 (j : Int) ∧ FInv K (EN sc ord K) par s j id ∧ wr.rowIs c8 21 K (fun i => .int .i32 (id i)) ∧ W.grownBy wr (some c8))
  case atStart =>
    obtain ⟨hinv, hs, ho, x0, r3, r8, hsm, hdone, hbel⟩ := A.out
    exact ⟨1, idom, Nat.le_refl _, hK1, rfl, rfl, ⟨fun v h1 h2 => by omega, fun v h1 h2 h3 => hdone v h2 h3⟩, r8, World.grownBy.refl _ _⟩
  case round =>
    obtain ⟨j, id, hj1, hjK, rfl, rfl, hF, hrow, hgrow⟩ := hrel
    obtain ⟨hinv, hs, ho, x0, r3, r8, hsm, hdone, hbel⟩ := A.out
    have D := hinv.dfs
    have bl : ∀ b, b < W.heap.size → b ≠ c8 → wr.heap[b]? = W.heap[b]? := fun b h1 h2 => hgrow.block b h1 (fun e => h2 (by injection e))
    by_cases hlt : j < K
    · have hji : (j : Int) < (K : Int) := by omega
      have cx := (x0.of_block (bl c0 x0.lt (Ne.symm n2))).cell (i := 0) (by omega)
      have c3j := (r3.of_block (bl c3 r3.lt (Ne.symm n3))).cell hlt
      rw [hsm j (by omega) hlt] at c3j
      have c8j := hrow.cell hlt
      have f8j := hrow.frozen j
      obtain ⟨sj, esj⟩ : ∃ sj, sj = s j := ⟨_, rfl⟩
      rw [← esj] at c3j
      rcases hF.at D hs (by omega) hlt with ⟨e1, e2⟩ | ⟨e1, u, b, e2, e3, e4, e5, e6⟩
      · rw [e1, ← esj] at c8j
        have hcmp : (((sj : Int)) != (sj : Int)) = false := by simp
        have A2 : Aside (FInv K (EN sc ord K) par s (j + 1) id ∧ wr.rowIs c8 21 K (fun i => .int .i32 (id i)) ∧ W.grownBy wr (some c8)) := ⟨hF.keep e1 (hs j (by omega) hlt).1 e2, hrow, hgrow⟩
        clear hF hrow hgrow hinv hs ho x0 r3 r8 hsm hdone hbel D bl e1 e2 esj
        go_wp2
        go_quiet (fail)
        go_wp2
        go_roundg (K - (j + 1))
        case measure => omega
        case rel =>
          obtain ⟨hF, hrow, hgrow⟩ := A2.out
          exact ⟨j + 1, id, by omega, by omega, rfl, by go_num, hF, hrow, ⟨hgrow.os, hgrow.tape, hgrow.output, hgrow.size, hgrow.block⟩⟩
      · rw [e2] at c8j
        have huK : u < K := by omega
        have c8u := hrow.cell huK
        rw [e4] at c8u
        have hui : (u : Int) < (K : Int) := by omega
        have hcmp : ((u : Int) != (sj : Int)) = true := by simpa [esj] using (by rw [← e2]; exact e1 : (u : Int) ≠ (s j : Int))
        have A2 : Aside (FInv K (EN sc ord K) par s (j + 1) (upd id j b) ∧ wr.rowIs c8 21 K (fun i => .int .i32 (id i)) ∧ W.grownBy wr (some c8)) := ⟨hF.step e5 e6, hrow, hgrow⟩
        clear hF hrow hgrow hinv hs ho x0 r3 r8 hsm hdone hbel D bl e1 e2 e3 e4 e5 e6 esj
        go_wp2
        go_quiet (fail)
        go_wp2
        go_roundg (K - (j + 1))
        case measure => omega
        case rel =>
          obtain ⟨hF, hrow, hgrow⟩ := A2.out
          refine ⟨j + 1, upd id j b, by omega, by omega, rfl, by go_num, hF, upd_row (W := wr.drewN nq) hrow j b, ?_⟩
          have h1 : W.grownBy (wr.drewN nq) (some c8) := ⟨hgrow.os, hgrow.tape, hgrow.output, hgrow.size, hgrow.block⟩
          have h2 := grow_set (wr.drewN nq) c8 j (.int .i32 (b : Int))
          exact ⟨h2.os.trans h1.os, h2.tape.trans h1.tape, h2.output.trans h1.output, Nat.le_trans h1.size h2.size, fun k hk hne => (h2.block k (Nat.lt_of_lt_of_le hk h1.size) hne).trans (h1.block k hk hne)⟩
    · obtain rfl : j = K := by omega
      have c80 := hrow.cell (i := 0) (by omega)
      have f80 := hrow.frozen 0
      have hji : (0 : Int) < (j : Int) := by omega
      have A2 : Aside (FInv j (EN sc ord j) par s j id ∧ wr.rowIs c8 21 j (fun i => .int .i32 (id i)) ∧ W.grownBy wr (some c8)) := ⟨hF, hrow, hgrow⟩
      clear hF hrow hgrow hinv hs ho x0 r3 r8 hsm hdone hbel D bl hlt
      go_wp2
      go_ret2
      obtain ⟨hF, hrow, hgrow⟩ := A2.out
      obtain ⟨hinv, hs, ho, x0, r3, r8, hsm, hdone, hbel⟩ := A.out
      have hob := ho.lt bo rfl
      have hrow2 := upd_row hrow 0 (-1)
      have h2 := grow_set wr c8 0 (.int .i32 (-1))
      refine ⟨j, ord, fun v => if v = 0 then 0 else (id v).toNat, bo, c8, rfl, hinv.out (fun e he v hv => by have := HI.out.bd e he; omega) (if_pos rfl) (fun k h1 h2 => ?_), fun i hi => ?_, fun i hi => ?_, n5, n4, ?_⟩
      · obtain ⟨b, b1, b2, b3⟩ := hF.lo k h1 h2
        rw [if_neg (by omega), b1]
        exact ⟨by simpa using b2, by simpa using b3⟩
      · have := ownsRow_block (W' := wr.setCell ⟨c8, 0, none⟩ (.int .i32 (-1))) ho ((h2.block bo (Nat.lt_of_lt_of_le hob.2 hgrow.size) (fun e => n1 (by injection e with e; exact e.symm))).trans (hgrow.block bo hob.2 (fun e => n1 (by injection e with e; exact e.symm))))
        rw [this.cellAt i (by omega), wayV_at ord hi]
      · have h3 := hrow2.cell hi
        rw [h3]
        by_cases e : i = 0
        · rw [e, upd_same, if_pos rfl]
        · obtain ⟨b, b1, b2, b3⟩ := hF.lo i (by omega) hi
          rw [upd_ne e, if_neg e]
          simp [e, b1]
      · exact (hbel.grown hgrow hbel.size (fun k e => by injection e with e; omega)).setCell (by exact n4) _

theorem dom_any {NB g : Nat} {sc : Nat → Int} {w : World} (hin : DomIn NB g sc w) : Calls Yba.prog 30 #[.slice (some ⟨g, 0, none⟩) (2 * NB) (2 * NB)] w (domR NB sc w) :=
  dom_start hin (dom_walk hin (dom_to hin (dom_lists hin (dom_fill hin (dom_main hin (dom_last hin))))))
end Go.Proofs.Ybulkexnju.W
