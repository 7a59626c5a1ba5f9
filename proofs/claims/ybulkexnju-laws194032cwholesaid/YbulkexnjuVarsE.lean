/-
  watchedVars: the last of starts, and the successors of the blocks.
-/
import Derived.Test.YbulkexnjuVarsD
namespace Go.Proofs.Ybulkexnju.W
open Go.RowKit Go.Proofs.Ybulkexnju.G
set_option linter.unusedVariables false
set_option maxRecDepth 100000

/-- the successors of the blocks -/
def scS (n : Nat) (kd tg : Nat → Nat) (ld : Nat → Bool) (st : Nat → Nat) (e : Nat) : Int :=
  if e % 2 = 0 then (if ret kd (st (e / 2 + 1) - 1) ∨ kd (st (e / 2 + 1) - 1) = 3 then -1 else if st (e / 2 + 1) - 1 + 1 < n then ((cb ld (st (e / 2 + 1) - 1 + 1 + 1) - 1 : Nat) : Int) else -1)
  else if jmp kd (st (e / 2 + 1) - 1) then ((cb ld (tg (st (e / 2 + 1) - 1) + 1) - 1 : Nat) : Int) else -1

theorem scS_even (n : Nat) (kd tg : Nat → Nat) (ld : Nat → Bool) (st : Nat → Nat) (b l : Nat) (hl : l + 1 = st (b + 1)) : scS n kd tg ld st (2 * b) = if ret kd l ∨ kd l = 3 then -1 else if l + 1 < n then ((cb ld (l + 1 + 1) - 1 : Nat) : Int) else -1 := by
  unfold scS
  rw [if_pos (by omega), show 2 * b / 2 = b by omega, show st (b + 1) - 1 = l by omega]

theorem scS_odd (n : Nat) (kd tg : Nat → Nat) (ld : Nat → Bool) (st : Nat → Nat) (b l : Nat) (hl : l + 1 = st (b + 1)) : scS n kd tg ld st (2 * b + 1) = if jmp kd l then ((cb ld (tg l + 1) - 1 : Nat) : Int) else -1 := by
  unfold scS
  rw [if_neg (by omega), show (2 * b + 1) / 2 = b by omega, show st (b + 1) - 1 = l by omega]

theorem _root_.Go.Proofs.Ybulkexnju.G.Made.bound {n : Nat} {kd tg : Nat → Nat} {ld : Nat → Bool} {st : Nat → Nat} {sc : Nat → Int} (h : Made n kd tg ld st sc) {e : Nat} (he : e < 2 * cb ld n) : -1 ≤ sc e ∧ sc e < cb ld n := by
  obtain ⟨b, hb⟩ : ∃ b, b = e / 2 := ⟨_, rfl⟩
  have hbN : b < cb ld n := by omega
  have hinc := h.inc hbN
  have hle := h.le (show b + 1 ≤ cb ld n by omega)
  obtain ⟨l, hl⟩ : ∃ l, l + 1 = st (b + 1) := ⟨st (b + 1) - 1, by omega⟩
  have hln : l < n := by omega
  rcases Nat.mod_two_eq_zero_or_one e with c | c
  · have e2 : e = 2 * b := by omega
    rw [e2, h.sc0 b l hbN hl]
    by_cases c1 : ret kd l ∨ kd l = 3
    · rw [if_pos c1]; omega
    · rw [if_neg c1]
      by_cases c2 : l + 1 < n
      · rw [if_pos c2]
        have := (h.bd c2).1
        omega
      · rw [if_neg c2]; omega
  · have e2 : e = 2 * b + 1 := by omega
    rw [e2, h.sc1 b l hbN hl]
    by_cases c1 : jmp kd l
    · rw [if_pos c1]
      have := (h.bd (h.tgn l hln c1)).1
      omega
    · rw [if_neg c1]; omega

/-- block and starts, behind them what lies at M and above -/
structure NW (V : VE) (w : World) (ld : Nat → Bool) (Bk St M : Nat) (st : Nat → Nat) (W : World) : Prop where
  vb : VB V w W
  rb : ∀ i, i < V.n → W.cell? ⟨Bk, i, none⟩ = some (.int .i32 ((cb ld (i + 1) : Int) - 1))
  rs : ∀ b, b ≤ cb ld V.n → W.cell? ⟨St, b, none⟩ = some (.int .i32 (st b : Int))
  m5 : w.heap.size + 5 ≤ M
  lb : Bk < M
  ls : St < M

theorem NW.later {V : VE} {w : World} {ld : Nat → Bool} {Bk St M : Nat} {st : Nat → Nat} {W W' : World} (h : NW V w ld Bk St M st W) (hb : Below M W W') : NW V w ld Bk St M st W' :=
  ⟨h.vb.later (hb.mono h.m5), fun i hi => (hb.cell h.lb).trans (h.rb i hi), fun b h2 => (hb.cell h.ls).trans (h.rs b h2), h.m5, h.lb, h.ls⟩

/-- the successors are known: region 65 is next -/
def RelV5 (V : VE) (w : World) (a : Act) (W : World) : Prop :=
  ∃ (x : Nat → Value) (Bk St Su : Nat) (ld : Nat → Bool) (st : Nat → Nat) (sc : Nat → Int), a = ⟨(fv x w.heap.size V.n (x 16) (x 19) (x 22) (.slice (some ⟨St, 0, none⟩) (cb ld V.n + 1) (cb ld V.n + 1)) (.slice (some ⟨Su, 0, none⟩) (2 * cb ld V.n) (2 * cb ld V.n)) (x 31) (x 33) (x 34) (x 35) (x 37) (x 38)).toArray, []⟩ ∧
    NW V w ld Bk St Su st W ∧ W.rowIs Su 21 (2 * cb ld V.n) (fun e => .int .i32 (sc e)) ∧ Made V.n V.kd V.tg ld st sc

theorem RelV5.mk {V : VE} {w : World} {l : List Value} {W : World} {Bk St Su : Nat} {ld : Nat → Bool} {st : Nat → Nat} {sc : Nat → Int} (hf : l = fv (nth l) w.heap.size V.n (nth l 16) (nth l 19) (nth l 22) (.slice (some ⟨St, 0, none⟩) (cb ld V.n + 1) (cb ld V.n + 1)) (.slice (some ⟨Su, 0, none⟩) (2 * cb ld V.n) (2 * cb ld V.n)) (nth l 31) (nth l 33) (nth l 34) (nth l 35) (nth l 37) (nth l 38))
    (h1 : NW V w ld Bk St Su st W) (h2 : W.rowIs Su 21 (2 * cb ld V.n) (fun e => .int .i32 (sc e))) (h3 : Made V.n V.kd V.tg ld st sc) : RelV5 V w ⟨l.toArray, []⟩ W :=
  ⟨nth l, Bk, St, Su, ld, st, sc, by rw [← hf], h1, h2, h3⟩

theorem two_sets (W : World) (Su i k : Nat) (a b : Value) : Below Su W ((W.setCell ⟨Su, i, none⟩ a).setCell ⟨Su, k, none⟩ b) :=
  ((Below.refl Su W).setCell (p := ⟨Su, i, none⟩) (Nat.le_refl Su) a).setCell (p := ⟨Su, k, none⟩) (Nat.le_refl Su) b

theorem succ_row {Su M2 j : Nat} {sc : Nat → Int} {W : World} {a b : Int} (h : W.rowIs Su 21 M2 (fun e => .int .i32 (if e < 2 * j then sc e else 0))) (ha : sc (2 * j) = a) (hb : sc (2 * j + 1) = b) :
    ((W.setCell ⟨Su, 2 * j, none⟩ (.int .i32 a)).setCell ⟨Su, 2 * j + 1, none⟩ (.int .i32 b)).rowIs Su 21 M2 (fun e => .int .i32 (if e < 2 * (j + 1) then sc e else 0)) := by
  refine ((h.set (2 * j) _).set (2 * j + 1) _).congr (fun e _ => ?_)
  by_cases c1 : e = 2 * j + 1
  · rw [if_pos c1, if_pos (by omega), c1, hb]
  · rw [if_neg c1]
    by_cases c2 : e = 2 * j
    · rw [if_pos c2, if_pos (by omega), c2, ha]
    · rw [if_neg c2]
      by_cases c3 : e < 2 * j
      · rw [if_pos c3, if_pos (by omega)]
      · rw [if_neg c3, if_neg (by omega)]

end Go.Proofs.Ybulkexnju.W
