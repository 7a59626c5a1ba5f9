/-
  Regions that draw their order, in a round of a range over a function.
-/
import Derived.Test.YbulkexnjuRange
import Derived.StillTailTactics
import Derived.Deep.QuietTactic
import Derived.BigQuiet
namespace Go.Proofs.Ybulkexnju.W
open Go.RowKit Go.Proofs.Ybulkexnju.G
set_option linter.unusedVariables false
section
variable {P : Program} {ops : Array Oper} {Q : Exit → Act → World → Prop} {l n : Nat}

/-- no operation of the region is a defer statement -/
def noDefer (l : List Oper) : Bool := l.all fun o => match o.op with | .defer _ => false | _ => true

theorem noDefer_spec {l : List Oper} (h : noDefer l = true) {j : Nat} {o : Oper} (ho : l.toArray[j]? = some o) (c : Call) : o.op ≠ .defer c := by
  intro e
  have hm : o ∈ l := List.mem_of_getElem? (by simpa using ho)
  have := (List.all_eq_true.1 h) o hm
  rw [e] at this
  cases this

theorem round_oper {o : Oper} {a : Act} {w : World} {K K' : Act → World → Prop} (hd : ∀ c, o.op ≠ .defer c) (hK : ∀ a w, K a w → K' a w) (h : o.wp P a w K Q) : o.wpIn (Fence.wide.inRound l) n P a w K' Q := by
  refine ⟨fun _ _ => trivial, ?_⟩
  rw [Oper.semAt_eq _ _ _ hd]
  unfold Oper.wp at h
  generalize (execOp a.eval o).run P w = r at h ⊢
  cases r with
  | ok x w' =>
    cases x <;> simp only [Oper.upon, Oper.uponIn] at h ⊢
    case value => exact hK _ _ h
    case skip => exact hK _ _ h
    case defer => exact hK _ _ h
    case enter =>
      refine ⟨fun e => (by cases e), CallsIn.inRound l (callsIn_wide.2 (Calls.mono h fun e w'' he => ?_))⟩
      cases e <;> first | exact hK _ _ he | exact he
    case row =>
      refine ⟨fun e => (by cases e), fun c cs _ => ?_⟩
      obtain ⟨v, w', r, s⟩ := h c cs
      exact ⟨v, w', hK _ _ r, stepsIn_wide.2 s⟩
  | halt x w' => cases x <;> simp only [Oper.upon, Oper.uponIn] at h ⊢ <;> exact h

theorem round_op {i : Nat} {a : Act} {w : World} {K K' : Act → World → Prop} (hd : ∀ (j : Nat) (o : Oper) (c : Call), ops[j]? = some o → o.op ≠ .defer c) (hQ : ¬ LetsOut Q) (hK : ∀ a w, K a w → K' a w)
    (h : wpOp P ops Q i K a w) : wpOpIn (Fence.wide.inRound l) n P ops Q i K' a w := by
  unfold wpOp at h
  unfold wpOpIn
  cases ho : ops[i]? with
  | none => simp only [ho] at h ⊢; exact hK _ _ h
  | some o =>
    simp only [ho] at h ⊢
    split
    · rename_i hw
      rw [if_pos hw] at h
      exact round_oper (fun c => hd i o c ho) hK (h.resolve_right fun x => hQ x.2)
    · rename_i hw
      rw [if_neg hw] at h
      exact ⟨fun _ _ => trivial, hK _ _ h⟩

theorem round_any_of {md : Region.Mode} (hd : ∀ (j : Nat) (o : Oper) (c : Call), ops[j]? = some o → o.op ≠ .defer c) (hQ : ¬ LetsOut Q) : ∀ (fuel : Nat) (listed : Array Bool) (a : Act) (w : World),
    wpAny P md ops Q fuel listed a w → wpAnyIn (Fence.wide.inRound l) n P md ops Q fuel listed a w := by
  intro fuel
  induction fuel with
  | zero => intro listed a w h; exact h
  | succ fuel ih => intro listed a w h; exact ⟨h.1, fun i hi => round_op hd hQ (fun a w => ih _ a w) (h.2 i hi)⟩

theorem round_quiet {id : Nat} {a : Act} {w : World} {ls : List Oper} (hm : P.follows .mixedOrders = true) (hB : Region.lexB .any ls.toArray = true) (hd : noDefer ls = true) (hQ : ¬ LetsOut Q)
    (h : wpQuiet P ls.toArray (fun w' => ∃ n, w' = w.drewN n) (fun a' => ∀ w', (∃ n, w' = w.drewN n) → Q .normal a' w') ls a) : (Code.region id ls.toArray true).wpIn (Fence.wide.inRound l) n P Q a w := by
  simp only [Region.lexB, Bool.and_eq_true] at hB
  refine wpIn_region_any hm (round_any_of (fun j o c ho => noDefer_spec hd ho c) hQ _ _ _ _ (wpAny_of_quiet (Q := fun a' => ∀ w', (∃ n, w' = w.drewN n) → Q .normal a' w') (fun _ w' hw' h => h w' hw') _ _ _ _ ⟨1, rfl⟩ ?_))
  have := wpAnyQ_lex (C := fun w' => ∃ n, w' = w.drewN n) (md := .any) hB.1 ls 0 (Array.replicate ls.toArray.size false) a (by simp) (by simpa using hB.2) h
  simpa using this

theorem round_tail {id : Nat} {a : Act} {w : World} {ls : List Oper} (k : Nat) (hm : P.follows .mixedOrders = true) (hB : Region.lexTailB .any ls.toArray k = true) (hdf : noDefer ls = true) (hQ : ¬ LetsOut Q)
    (h : wpStill P ls.toArray w.drew (fun a' => wpList P ls.toArray Q (ls.drop k) a' w.drew) (ls.take k) a) : (Code.region id ls.toArray true).wpIn (Fence.wide.inRound l) n P Q a w := by
  simp only [Region.lexTailB, Bool.and_eq_true, decide_eq_true_eq] at hB
  obtain ⟨⟨⟨⟨hsel, hn⟩, hs⟩, hc⟩, hlex⟩ := hB
  have hn' : k < ls.length := by simpa using hn
  have htl : (ls.take k).length = k := by simp; omega
  have hdl : (ls.drop k).length = ls.toArray.size - k := by simp
  have inv0 : HeadInv .any ls.toArray k (Array.replicate ls.toArray.size false) :=
    ⟨by simp, fun j oj _ hl => (by rw [getD_replicate_false] at hl; cases hl), fun t _ ht => getD_in (by simpa using ht) (getD_replicate_false _ _)⟩
  have H := wpAnyL_lex (md := .any) (g := ls.toArray.size - k) hsel hs hc hn (ls.take k) 0 _ a (fun j hj => by
    have hj' : j < k := by rw [htl] at hj; exact hj
    simp [hj']) (by simpa using htl) inv0 (by rw [htl]; exact hlex) h
  refine wpIn_region_any hm (round_any_of (fun j o c ho => noDefer_spec hdf ho c) hQ _ _ _ _ ?_)
  have := wpAny_of_head (Q' := Q) (g := ls.toArray.size - k) (fun listed a' hL => by
    have := wpAny_of_seq (md := .any) (Q' := Q) (ls.drop k) k listed a' { w with drawn := w.drawn + 1 } (fun j => by simp [List.getElem?_drop]) (by rw [hdl]; exact hL.1) hL.2
    rwa [hdl] at this) _ _ _ H
  rw [htl, show k + (ls.toArray.size - k) = ls.toArray.size by omega] at this
  exact this
end
end Go.Proofs.Ybulkexnju.W
