/-
  A range over slices.Backward: the rounds come from the last cell to the first; the body is asked at those alone.
-/
import Derived.Test.YbulkexnjuGrouped
import Derived.RangeFuncNested
import Derived.RangeFuncBound
import Derived.RangeFuncCalls
import Derived.RangeFuncLeaves
import Derived.Shelf.Abstract
import Derived.WalkKit
import Derived.OwnWalkIn
import Derived.TacticsInMore
import Derived.LoopNIn
import Derived.LoopIn
namespace Go.Proofs.Ybulkexnju.W
open Go.RowKit Go.Proofs.Ybulkexnju.G
set_option linter.unusedVariables false
attribute [local go_sem] Oper.semAt_some

/-- slices.Backward: the slice is boxed; the function value holds the box -/
theorem backward_in (F : Fence) (n : Nat) (h : F.fn 38) (hro : F.round = none) (a : Option Addr) (len cap : Nat) (w : World) :
    CallsIn F n Yba.prog 38 #[.slice a len cap] w fun e w' => e = .returned (.func (.func 40) #[] #[.pointer (some ⟨w.heap.size, 0, none⟩)]) ∧ w' = w.alloc (.cells #[.slice a len cap] 57) := by
  refine callsIn_of_wp Yba.func38 rfl h ?_ hro
  simp only [Yba.ntmps38, List.size_toArray, List.length_cons, List.length_nil, Nat.reduceAdd, Nat.reduceSub, Array.replicate_succ, Array.replicate_zero, List.push_toArray, List.append_toArray, List.nil_append, List.cons_append]
  gi_wp2
  go_ret
  exact ⟨rfl, rfl⟩

set_option maxRecDepth 100000 in
set_option maxHeartbeats 2000000 in
/-- the iterator, at a slice that has cells -/
theorem back_in (F : Fence) (n : Nat) (h40 : F.fn 40) (hro : F.round = none) (hn : 1 ≤ n) (l Bs g k cap : Nat) (hk : k ≤ 1048576) (xs : Nat → Int) (J : Nat → World → Prop)
    (hJ : ∀ t W, J t W → W.cell? ⟨Bs, 0, none⟩ = some (.slice (some ⟨g, 0, none⟩) k cap) ∧ ∀ j, j < k → W.cell? ⟨g, j, none⟩ = some (.int .i32 (xs j)))
    (hY : ∀ t W, t < k → J t W → YieldAt F (n - 1) Yba.prog l #[.int .i64 ((k - 1 - t : Nat) : Int), .int .i32 (xs (k - 1 - t))] W fun e W' => e = .returned (.bool true) ∧ J (t + 1) W')
    (W : World) (h0 : J 0 W) :
    CallsIn F n Yba.prog 40 #[.func (.yield l) #[] #[], .pointer (some ⟨Bs, 0, none⟩)] W fun e W' => (∃ v, e = .returned v) ∧ J k W' := by
  have hc0 := (hJ 0 W h0).1
  refine callsIn_of_wp Yba.func40 rfl h40 ?_ hro
  simp only [Yba.ntmps40, List.size_toArray, List.length_cons, List.length_nil, Nat.reduceAdd, Nat.reduceSub, Array.replicate_succ, Array.replicate_zero, List.push_toArray, List.append_toArray, List.nil_append, List.cons_append]
  gi_wp2
  gi_loopw [3] (fun i wr => ∃ t : Nat, t ≤ k ∧ i = .int .i64 ((k : Int) - 1 - t) ∧ J t wr) (fun i _ => (intOf i + 1).toNat)
  case atStart => exact ⟨0, Nat.zero_le _, by go_num, h0⟩
  case round =>
    obtain ⟨t, ht, rfl, hJs⟩ := hrel
    by_cases hlt : t < k
    · obtain ⟨i, hi⟩ : ∃ i : Nat, i = k - 1 - t := ⟨_, rfl⟩
      have hi2 : (k : Int) - 1 - t = i := by omega
      obtain ⟨fn, tmps, assign, body, hy, hR⟩ := hY t wr hlt hJs
      rw [← hi] at hy
      obtain ⟨hc1, hc2⟩ := hJ t wr hJs
      have hc3 := hc2 i (by omega)
      have hil : (i : Int) < k := by omega
      rw [hi2]
      have A : Aside (t ≤ k ∧ i = k - 1 - t ∧ t < k) := ⟨ht, hi, hlt⟩
      clear hc2 hi hlt ht hi2
      gi_wp2
      refine hR.mono ?_
      rintro e W3 ⟨rfl, hJ3⟩
      gi_wp2
      go_roundw
      case rel => 
        obtain ⟨ht, hi, hlt⟩ := A.out
        exact ⟨t + 1, by omega, by go_num, hJ3⟩
      case measure => 
        obtain ⟨ht, hi, hlt⟩ := A.out
        first | (simp [intOf]; done) | (simp [intOf]; omega)
    · obtain rfl : t = k := by omega
      have e : (t : Int) - 1 - t = -1 := by omega
      rw [e]
      clear e
      gi_wp2
      go_end0
      exact ⟨⟨_, rfl⟩, hJs⟩

set_option maxRecDepth 100000 in
set_option maxHeartbeats 1000000 in
theorem back_nil (F : Fence) (n : Nat) (h40 : F.fn 40) (hro : F.round = none) (l Bs : Nat) (J : Nat → World → Prop) (W : World) (hc : W.cell? ⟨Bs, 0, none⟩ = some (.slice none 0 0)) (h0 : J 0 W) :
    CallsIn F n Yba.prog 40 #[.func (.yield l) #[] #[], .pointer (some ⟨Bs, 0, none⟩)] W fun e W' => (∃ v, e = .returned v) ∧ J 0 W' := by
  refine callsIn_of_wp Yba.func40 rfl h40 ?_ hro
  simp only [Yba.ntmps40, List.size_toArray, List.length_cons, List.length_nil, Nat.reduceAdd, Nat.reduceSub, Array.replicate_succ, Array.replicate_zero, List.push_toArray, List.append_toArray, List.nil_append, List.cons_append]
  gi_wp2
  gi_loopw [3] (fun i wr => i = .int .i64 (-1) ∧ J 0 wr) (fun _ _ => 0)
  case atStart => exact ⟨rfl, h0⟩
  case round =>
    obtain ⟨rfl, hJs⟩ := hrel
    gi_wp2
    go_end0
    exact ⟨⟨_, rfl⟩, hJs⟩

/-- the law of the statement: the body is asked at the cells of the slice alone, in their order -/
theorem wpIn_back {F : Fence} {n : Nat} {g : Operand} {ps : Array Tmp} {assign body : Code} {Q : Exit → Act → World → Prop} {a : Act} {w : World}
    (hro : F.round = none) (h1 : 1 ≤ n) (h2 : 1 ≤ n - 1) (h40 : F.fn 40) {Bs gp k cap : Nat} {pv : Value} (hk : k ≤ 1048576) (xs : Nat → Int)
    (hpv : (pv = .slice none 0 0 ∧ k = 0) ∨ pv = .slice (some ⟨gp, 0, none⟩) k cap)
    (hg : a.eval g = .func (.func 40) #[] #[.pointer (some ⟨Bs, 0, none⟩)]) (hps : ps.size = 2)
    (I : Nat → World → Prop) (hI : OwnFrom w.heap.size I)
    (hJ : ∀ t W, I t W → W.cell? ⟨Bs, 0, none⟩ = some pv ∧ ∀ j, j < k → W.cell? ⟨gp, j, none⟩ = some (.int .i32 (xs j)))
    (h0 : I 0 w) (a₁ : Nat → Act)
    (hassign : ∀ (l t : Nat) (W : World) (K : Act → World → Prop), K (a₁ t) W →
      assign.wpIn (F.inRound l) (n - 1 - 1) Yba.prog (Exit.then K (fun _ _ _ => False)) { tmps := (ps.zip #[.int .i64 ((k - 1 - t : Nat) : Int), .int .i32 (xs (k - 1 - t))]).foldl (fun t (p, v) => t.setIfInBounds p v) a.tmps, defers := [] } W)
    (hbody : ∀ (l t : Nat) (W : World), t < k → I t W → body.wpIn (F.inRound l) (n - 1 - 1) Yba.prog (fun e _ W' => e = .normal ∧ KeepsFrom w.heap.size W W' ∧ I (t + 1) W') (a₁ t) W)
    (hdone : ∀ (D : Nat) (W : World), w.heap.size ≤ D → I k W → W.heap[D]? = some (.deferred (some [])) → Q .normal { a with defers := { target := .collected D, args := #[] } :: a.defers } W) :
    (Code.rangeFunc g ps assign body).wpIn F n Yba.prog Q a w := by
  refine wpIn_rangeFunc ?_
  intro fn hfn
  rw [hro]
  obtain ⟨rc, hrc⟩ : ∃ rc : LoopState → Option Code → Loop, rc = fun st pe => { state := st, pending := pe, fn, tmps := a.tmps, params := ps, assign, body, defers := w.heap.size } := ⟨_, rfl⟩
  obtain ⟨W1, hW1⟩ : ∃ W1, (w.alloc (.deferred (some []))).alloc (.loop (rc .ready none)) = W1 := ⟨_, rfl⟩
  have hL1 : W1.heap[w.heap.size + 1]? = some (.loop (rc .ready none)) := by
    rw [← hW1]; have := World.alloc_heap_new (w.alloc (.deferred (some []))) (.loop (rc .ready none)); rwa [World.size_alloc] at this
  have hK1 : W1.heap[w.heap.size]? = some (.deferred (some [])) := by
    rw [← hW1]; exact (Below.heap_alloc _ _ _ (by simp)).trans (World.alloc_heap_new w _)
  have hI1 : I 0 W1 := by rw [← hW1]; exact hI.alloc _ (hI.alloc _ h0)
  have eg : ∀ args w, (callFunc 40 args).run Yba.prog w = .ok (.enter 40 args) w := enters_of Yba.func40 (by kernel_rfl) rfl
  refine ⟨w.heap.size + 1, [{ target := .collected w.heap.size, args := #[] }], W1, { target := .fn (.func 40) #[.pointer (some ⟨Bs, 0, none⟩)], args := #[.func (.yield (w.heap.size + 1)) #[] #[]] }, W1, 40,
    #[.func (.yield (w.heap.size + 1)) #[] #[]] ++ #[.pointer (some ⟨Bs, 0, none⟩)], W1, ?_, ?_, ?_, ?_, fun _ => h1, ?_⟩
  · rw [← hW1, hrc]; exact run_enterLoop_outer _ _ _ _ _
  · simp only [resolve, hg]
    simp [go_sem]
  · intro f' hf'; simp [Target.leads] at hf'; subst hf'; exact h40
  · simp [invoke, go_sem, eg]
  · have hY : ∀ t W, t < k → (I t W ∧ W.heap[w.heap.size + 1]? = some (.loop (rc .ready none)) ∧ W.heap[w.heap.size]? = some (.deferred (some []))) →
        YieldAt F (n - 1 - 1) Yba.prog (w.heap.size + 1) #[.int .i64 ((k - 1 - t : Nat) : Int), .int .i32 (xs (k - 1 - t))] W fun e W' =>
          e = .returned (.bool true) ∧ (I (t + 1) W' ∧ W'.heap[w.heap.size + 1]? = some (.loop (rc .ready none)) ∧ W'.heap[w.heap.size]? = some (.deferred (some []))) := by
      rintro t W htk ⟨hi, hl, hk'⟩
      have hlt : w.heap.size + 1 < W.heap.size := (Array.getElem?_eq_some_iff.1 hl).1
      have hy := run_yield (P := Yba.prog) (args := #[.int .i64 ((k - 1 - t : Nat) : Int), .int .i32 (xs (k - 1 - t))]) hl (by rw [hrc]; exact hps.symm)
      rw [hrc] at hy
      refine ⟨fn, _, assign, body, hy, roundIn_of_wpIn hfn (hassign _ t W _ ⟨_, run_beginRound hl (by rw [hrc]), ?_⟩)⟩
      have hl2 : (W.putObj (w.heap.size + 1) (.loop { rc .ready none with state := .busy })).heap[w.heap.size + 1]? = some (.loop { rc .ready none with state := .busy }) := World.putObj_heap_same hlt
      have hk2 : (W.putObj (w.heap.size + 1) (.loop { rc .ready none with state := .busy })).heap[w.heap.size]? = some (.deferred (some [])) := (World.putObj_heap_other (by omega)).trans hk'
      refine wpIn_mono (hbody _ t _ htk (hI.putObj _ hi (by omega) hl rfl)) ?_
      rintro e a3 W3 ⟨rfl, hk3, hi3⟩
      have hl3 := hk3.same _ _ (by omega) hl2 rfl
      have hr := run_endRound (P := Yba.prog) none hl3
      refine ⟨_, _, hr, rfl, hI.putObj _ hi3 (by omega) hl3 rfl, ?_, (World.putObj_heap_other (by omega)).trans (hk3.same _ _ (Nat.le_refl _) hk2 rfl)⟩
      rw [World.putObj_heap_same (Array.getElem?_eq_some_iff.1 hl3).1, hrc]
      rfl
    have fin : CallsIn F (n - 1) Yba.prog 40 #[.func (.yield (w.heap.size + 1)) #[] #[], .pointer (some ⟨Bs, 0, none⟩)] W1 fun e W' => (∃ v, e = .returned v) ∧
        (I k W' ∧ W'.heap[w.heap.size + 1]? = some (.loop (rc .ready none)) ∧ W'.heap[w.heap.size]? = some (.deferred (some []))) := by
      rcases hpv with ⟨rfl, rfl⟩ | rfl
      · exact back_nil F (n - 1) h40 hro _ Bs (fun t W => I t W ∧ W.heap[w.heap.size + 1]? = some (.loop (rc .ready none)) ∧ W.heap[w.heap.size]? = some (.deferred (some []))) W1 (hJ 0 W1 hI1).1 ⟨hI1, hL1, hK1⟩
      · exact back_in F (n - 1) h40 hro h2 _ Bs gp k cap hk xs (fun t W => I t W ∧ W.heap[w.heap.size + 1]? = some (.loop (rc .ready none)) ∧ W.heap[w.heap.size]? = some (.deferred (some []))) (fun t W h => hJ t W h.1) hY W1 ⟨hI1, hL1, hK1⟩
    refine fin.mono ?_
    rintro e W2 ⟨⟨v, rfl⟩, hi, hl, hk'⟩
    exact ⟨none, _, by have := run_endLoop (P := Yba.prog) hl (by rw [hrc]; simp); rw [hrc] at this; exact this, hdone _ _ (Nat.le_refl _) (hI.putObj _ hi (by omega) hl rfl) ((World.putObj_heap_other (by omega)).trans hk')⟩
end Go.Proofs.Ybulkexnju.W
