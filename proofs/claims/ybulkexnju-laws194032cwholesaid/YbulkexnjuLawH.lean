/-
  The law: what is covered.
-/
import Derived.Test.YbulkexnjuLawG
namespace Go.Proofs.Ybulkexnju.W
open Go.RowKit Go.Proofs.Ybulkexnju.G
set_option linter.unusedVariables false
set_option maxRecDepth 100000

set_option maxHeartbeats 32000000 in
theorem law_cover {d : LD} (hd : d.Ok) (hnext : ∀ a W, RelL3 d a W → (tail4 23).wp Yba.prog (bodyPost Yba.prog Yba.f4 (lawR d.w)) a W) :
    ∀ a W, RelL2 d a W → (tail4 20).wp Yba.prog (bodyPost Yba.prog Yba.f4 (lawR d.w)) a W := by
  rintro a W ⟨x, g7, g8, g9, g10, gf, gs, c7, c8, c9, c10, r, W7, rfl, hq, hb7, hrow⟩
  have hn4 := hd.n4
  have HD : Aside d.Ok := hd
  have HX : Aside (∀ a W, RelL3 d a W → (tail4 23).wp Yba.prog (bodyPost Yba.prog Yba.f4 (lawR d.w)) a W) := hnext
  obtain ⟨H, eH⟩ : ∃ H, H = d.H := ⟨_, rfl⟩
  obtain ⟨m5, hm5⟩ : ∃ m5, m5 = 5 * d.n := ⟨_, rfl⟩
  obtain ⟨Su, eSu⟩ : ∃ Su, Su = W7.heap.size := ⟨_, rfl⟩
  have E : Aside (H = d.H ∧ m5 = 5 * d.n ∧ Su = W7.heap.size) := ⟨eH, hm5, eSu⟩
  have HQ : Aside (LQ d g7 g8 g9 g10 gf gs r W7 ∧ Below W7.heap.size W7 W ∧ W.rowIs W7.heap.size 76 (2 * d.n) (fun e => .int .i64 (sI d.n d.kd d.tg e))) := ⟨hq, hb7, hrow⟩
  have HR0 : Aside (Calls Yba.prog 12 #[.int .i64 (d.n : Int), .slice (some ⟨Su, 0, none⟩) d.n d.n, .int .i64 (-1)] W _) := reach_any d.n Su (sI d.n d.kd d.tg) (-1) W hn4 (fun e he => sI_bd he) (fun e he => by rw [eSu]; exact hrow.cell he)
  unfold frL2 fl
  rw [← eSu, ← hm5, ← eH]
  clear hq hb7 hrow hd hnext hm5 eH eSu
  conv => arg 2; whnf
  have hmk := make_bool .i64 .i64 d.n (by omega)
  go_wp2_with (go_at_call 12; refine Calls.mono HR0.out ?_; rintro e w8 ⟨rfl, hR, hb8⟩)
  clear hmk HR0
  obtain ⟨rc, hrc, hrs⟩ := hR
  obtain ⟨R0, eR0⟩ : ∃ R0, R0 = W.heap.size := ⟨_, rfl⟩
  have HB : Aside (Below w8.heap.size w8 (w8.alloc (.cells (madeCells #[.bool false] d.n) 4)) ∧ (w8.alloc (.cells (madeCells #[.bool false] d.n) 4)).rowIs w8.heap.size 4 d.n (fun _ => .bool false)) := ⟨(Below.refl _ _).alloc (Nat.le_refl _) _, World.rowIs_made w8 (.bool false) d.n 4⟩
  obtain ⟨q, eq⟩ : ∃ q : CC, q = ⟨d, g7, g8, g9, g10, gf, gs, c7, c8, c9, c10, R0, r, W7, w8, rc⟩ := ⟨_, rfl⟩
  have hqo : q.Ok := by
    obtain ⟨h1, h2, h3⟩ := HQ.out
    rw [eq]
    refine ⟨HD.out, h1, h2.trans (hb8.mono h2.size), fun i hi => ?_, fun i hi => (hrs i hi).trans St_all, fun e he => cell_later hb8 (h3.cell he)⟩
    show w8.cell? ⟨R0, i, none⟩ = _
    rw [eR0]
    exact hrc.cell hi
  have EQ : Aside (q = ⟨d, g7, g8, g9, g10, gf, gs, c7, c8, c9, c10, R0, r, W7, w8, rc⟩) := eq
  have HQO : Aside q.Ok := hqo
  rw [← eR0]
  clear hrc hrs hb8 eR0 HQ eq hqo
  rename_i K0 hK0
  have hK' : ∀ a W, RelL3 d a W → K0 a W := fun a W h => hK0 a W (HX.out a W h)
  clear hK0
  refine wp_loop_ghost_k (fun k a' W => ∃ j, j ≤ d.n ∧ k = d.n - j ∧ RelC q j j a' W) (d.n - 0) ?_ ?_
  · obtain ⟨eH, hm5, eSu⟩ := E.out
    refine ⟨0, by omega, rfl, RelC.mk (cov := fun _ => false) ?_ (by rw [EQ.out]; exact HB.out.1) (by rw [EQ.out]; exact HB.out.2) (fun i _ => ⟨fun h => (by cases h), fun ⟨k, hk, _⟩ => (by omega)⟩)⟩
    rw [EQ.out]
    unfold frC frL2
    rw [← eSu, ← hm5, ← eH]
    rfl
  · rintro k a' wr ⟨j, hj1, rfl, hR⟩ J KJ hJ hKJ
    clear HB
    by_cases hlt : j < d.n
    · have hlq : j < q.d.n := by rw [EQ.out]; exact hlt
      have hie : (j : Int) < (d.n : Int) := by omega
      have hX : ∀ a2 W2, RelC q j j a2 W2 → (right 1 L3).wp Yba.prog (Exit.then KJ (Exit.inBlock 6 (Exit.then K0 (bodyPost Yba.prog Yba.f4 (lawR d.w))))) a2 W2 := by
        intro a2 W2 h2
        refine wp_seq_k (x := .block 7 BL) (fun K2 hK2 => wp_block ?_)
        have hend : ∀ a3 W3, RelC q j (j + 1) a3 W3 → K2 a3 W3 := by
          intro a3 W3 h3
          refine hK2 a3 W3 ?_
          obtain ⟨y3, cov3, rfl, b1, b2, b3⟩ := h3
          have hi4 : (j : Int) < 4096 := by omega
          have A2 : Aside (Below q.W8.heap.size q.W8 W3 ∧ W3.rowIs q.W8.heap.size 4 q.d.n (fun i => .bool (cov3 i)) ∧ ∀ i, i < q.d.n → (cov3 i = true ↔ q.d.CovB (j + 1) i)) := ⟨b1, b2, b3⟩
          have HJ : Aside (∀ k a' w', (∃ i, i ≤ d.n ∧ k = d.n - i ∧ RelC q i i a' w') → J k a' w') := hJ
          have HKJ : Aside (∀ a' w', Handed J (d.n - j) a' w' → KJ a' w') := hKJ
          clear b1 b2 b3 hJ hKJ hK2 h2 hK' hR hlq
          unfold frC frL2 fl
          conv => arg 2; whnf
          go_wp2
          obtain ⟨b1, b2, b3⟩ := A2.out
          refine HKJ.out _ _ (Handed.intro (d.n - (j + 1)) (by omega) (HJ.out _ _ _ ⟨j + 1, by omega, rfl, RelC.mk (by rw [show ((j + 1 : Nat) : Int) = (j : Int) + 1 by omega]; rfl) b1 b2 b3⟩))
        exact cover_head HQO.out hlq (fun hsg => cover_inner HQO.out hlq hsg (fun a3 W3 h3 => hend a3 W3 h3)) (fun a3 W3 h3 => hend a3 W3 h3) a2 W2 h2
      obtain ⟨y, cov, rfl, b1, b2, b3⟩ := hR
      change L3.wp Yba.prog _ _ _
      rw [L3_eq]
      generalize right 1 L3 = R at *
      generalize h0 : leftOf L3 = c0
      conv at h0 => lhs; whnf
      subst h0
      have A3 : Aside (∀ a2 W2, RelC q j j a2 W2 → R.wp Yba.prog (Exit.then KJ (Exit.inBlock 6 (Exit.then K0 (bodyPost Yba.prog Yba.f4 (lawR d.w))))) a2 W2) := hX
      have A4 : Aside (Below q.W8.heap.size q.W8 wr ∧ wr.rowIs q.W8.heap.size 4 q.d.n (fun i => .bool (cov i)) ∧ ∀ i, i < q.d.n → (cov i = true ↔ q.d.CovB j i)) := ⟨b1, b2, b3⟩
      have hie2 : (j : Int) < (q.d.n : Int) := by omega
      clear hX b1 b2 b3 hJ hKJ hK'
      unfold frC frL2 fl
      conv => arg 3; whnf
      go_wp2
      obtain ⟨b1, b2, b3⟩ := A4.out
      exact A3.out _ _ (RelC.mk rfl b1 b2 b3)
    · obtain rfl : j = d.n := by omega
      obtain ⟨y, cov, rfl, b1, b2, b3⟩ := hR
      have A4 : Aside (Below q.W8.heap.size q.W8 wr ∧ wr.rowIs q.W8.heap.size 4 q.d.n (fun i => .bool (cov i)) ∧ ∀ i, i < q.d.n → (cov i = true ↔ q.d.CovB d.n i)) := ⟨b1, b2, b3⟩
      have HK' : Aside (∀ a W, RelL3 d a W → K0 a W) := hK'
      have hqd : q.d.n = d.n := by rw [EQ.out]
      clear b1 b2 b3 hJ hKJ hK' hlt
      unfold frC frL2 fl
      conv => arg 2; whnf
      go_wp2
      obtain ⟨b1, b2, b3⟩ := A4.out
      have hqo := HQO.out
      have eq := EQ.out
      refine HK'.out _ _ ?_
      subst eq
      exact RelL3.mk rfl ⟨hqo.lq, hqo.b78, hqo.c0, hqo.rs, b1, b2, b3⟩
end Go.Proofs.Ybulkexnju.W
