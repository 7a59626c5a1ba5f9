/-
  The law: reached, covered.
-/
import Derived.Test.YbulkexnjuLawE
namespace Go.Proofs.Ybulkexnju.W
open Go.RowKit Go.Proofs.Ybulkexnju.G
set_option linter.unusedVariables false
set_option maxRecDepth 100000

def LD.rd (d : LD) (i : Nat) : Bool := isRd (opc (d.kd i))
def LD.sg (d : LD) (i : Nat) : Bool := isSg (opc (d.kd i))
def LD.E (d : LD) : Nat → Nat → Prop := EI d.n d.kd d.tg

theorem LD.k9 (d : LD) (i : Nat) : d.kd i < 9 := Nat.mod_lt _ (by omega)
theorem LD.rd_iff (d : LD) (i : Nat) : d.rd i = true ↔ d.kd i = 0 ∨ d.kd i = 1 := by
  unfold LD.rd isRd
  rcases kd_cases (d.k9 i) with e | e | e | e | e | e | e | e | e <;> rw [e] <;> simp [opc]
theorem LD.sg_iff (d : LD) (i : Nat) : d.sg i = true ↔ d.kd i = 1 ∨ d.kd i = 2 := by
  unfold LD.sg isSg
  rcases kd_cases (d.k9 i) with e | e | e | e | e | e | e | e | e <;> rw [e] <;> simp [opc]

/-- instruction j covers instruction i -/
def LD.Cov (d : LD) (j i : Nat) : Prop := d.sg j = true ∧ i ≠ j ∧ Rch d.E 0 i ∧ Dom d.E j i ∧ d.rd i = true ∧ d.X i = d.X j
/-- one of those below j does -/
def LD.CovB (d : LD) (j i : Nat) : Prop := ∃ k, k < j ∧ d.Cov k i

theorem LD.CovB_succ {d : LD} {j i : Nat} : d.CovB (j + 1) i ↔ d.CovB j i ∨ d.Cov j i := by
  constructor
  · rintro ⟨k, hk, h⟩
    by_cases e : k = j
    · subst e; exact .inr h
    · exact .inl ⟨k, by omega, h⟩
  · rintro (⟨k, hk, h⟩ | h)
    · exact ⟨k, by omega, h⟩
    · exact ⟨j, by omega, h⟩

theorem St_dom {d : LD} {j i : Nat} : (0 ≠ (j : Int) ∧ Rch (St d.n (sI d.n d.kd d.tg) (j : Int)) 0 i) ↔ RA d.E j i := by
  unfold RA
  have e : St d.n (sI d.n d.kd d.tg) (j : Int) = fun x y => d.E x y ∧ y ≠ j := by
    funext x y
    unfold St
    refine propext (and_congr Iff.rfl ?_)
    constructor
    · intro h e; exact h (by rw [e])
    · intro h e; exact h (by omega)
  rw [e]
  refine and_congr ?_ Iff.rfl
  constructor
  · intro h e; exact h (by omega)
  · intro h e; exact h (by omega)

theorem St_all {d : LD} {i : Nat} : (0 ≠ (-1 : Int) ∧ Rch (St d.n (sI d.n d.kd d.tg) (-1)) 0 i) ↔ Rch d.E 0 i := by
  have e : St d.n (sI d.n d.kd d.tg) (-1) = d.E := by
    funext x y
    unfold St
    refine propext ⟨fun h => h.1, fun h => ⟨h, by omega⟩⟩
  rw [e]
  exact ⟨fun h => h.2, fun h => ⟨by omega, h⟩⟩

/-- what is covered is known: region 89 is next -/
def RelL3 (d : LD) (a : Act) (W : World) : Prop :=
  ∃ (x : Nat → Value) (g7 g8 g9 g10 gf gs c7 c8 c9 c10 R0 : Nat) (r : Value) (W7 W8 : World) (rc cov : Nat → Bool), a = ⟨(frL2 d x g7 g8 g9 g10 gf c7 c8 c9 c10 r W7.heap.size (.slice (some ⟨R0, 0, none⟩) d.n d.n) (.slice (some ⟨W8.heap.size, 0, none⟩) d.n d.n) (x 33) (x 34) (x 36)).toArray, []⟩ ∧
    LQ d g7 g8 g9 g10 gf gs r W7 ∧ Below W7.heap.size W7 W8 ∧ (∀ i, i < d.n → W8.cell? ⟨R0, i, none⟩ = some (.bool (rc i))) ∧ (∀ i, i < d.n → (rc i = true ↔ Rch d.E 0 i)) ∧ Below W8.heap.size W8 W ∧ W.rowIs W8.heap.size 4 d.n (fun i => .bool (cov i)) ∧ (∀ i, i < d.n → (cov i = true ↔ d.CovB d.n i))

theorem RelL3.mk {d : LD} {l : List Value} {W : World} {g7 g8 g9 g10 gf gs c7 c8 c9 c10 R0 : Nat} {r : Value} {W7 W8 : World} {rc cov : Nat → Bool} (hf : l = frL2 d (nth l) g7 g8 g9 g10 gf c7 c8 c9 c10 r W7.heap.size (.slice (some ⟨R0, 0, none⟩) d.n d.n) (.slice (some ⟨W8.heap.size, 0, none⟩) d.n d.n) (nth l 33) (nth l 34) (nth l 36))
    (h : LQ d g7 g8 g9 g10 gf gs r W7 ∧ Below W7.heap.size W7 W8 ∧ (∀ i, i < d.n → W8.cell? ⟨R0, i, none⟩ = some (.bool (rc i))) ∧ (∀ i, i < d.n → (rc i = true ↔ Rch d.E 0 i)) ∧ Below W8.heap.size W8 W ∧ W.rowIs W8.heap.size 4 d.n (fun i => .bool (cov i)) ∧ (∀ i, i < d.n → (cov i = true ↔ d.CovB d.n i))) : RelL3 d ⟨l.toArray, []⟩ W :=
  ⟨nth l, g7, g8, g9, g10, gf, gs, c7, c8, c9, c10, R0, r, W7, W8, rc, cov, by rw [← hf], h⟩

theorem sI_bd {d : LD} {e : Nat} (he : e < 2 * d.n) : -1 ≤ sI d.n d.kd d.tg e ∧ sI d.n d.kd d.tg e < d.n := by
  have ht : d.tg (e / 2) < d.n := Nat.mod_lt _ (by omega)
  unfold sI
  split
  · unfold aI
    split
    · omega
    · split
      · omega
      · split <;> omega
  · unfold bI
    split <;> omega

/-- all that stands fixed while 'covered' is found -/
structure CC where
  d : LD
  g7 : Nat
  g8 : Nat
  g9 : Nat
  g10 : Nat
  gf : Nat
  gs : Nat
  c7 : Nat
  c8 : Nat
  c9 : Nat
  c10 : Nat
  R0 : Nat
  r : Value
  W7 : World
  W8 : World
  rc : Nat → Bool

structure CC.Ok (q : CC) : Prop where
  ok : q.d.Ok
  lq : LQ q.d q.g7 q.g8 q.g9 q.g10 q.gf q.gs q.r q.W7
  b78 : Below q.W7.heap.size q.W7 q.W8
  c0 : ∀ i, i < q.d.n → q.W8.cell? ⟨q.R0, i, none⟩ = some (.bool (q.rc i))
  rs : ∀ i, i < q.d.n → (q.rc i = true ↔ Rch q.d.E 0 i)
  cs : ∀ e, e < 2 * q.d.n → q.W8.cell? ⟨q.W7.heap.size, e, none⟩ = some (.int .i64 (sI q.d.n q.d.kd q.d.tg e))

def frC (q : CC) (x : Nat → Value) (v33 v34 v36 : Value) : List Value :=
  frL2 q.d x q.g7 q.g8 q.g9 q.g10 q.gf q.c7 q.c8 q.c9 q.c10 q.r q.W7.heap.size (.slice (some ⟨q.R0, 0, none⟩) q.d.n q.d.n) (.slice (some ⟨q.W8.heap.size, 0, none⟩) q.d.n q.d.n) v33 v34 v36

/-- the counter is i; those below j have been looked at -/
def RelC (q : CC) (i j : Nat) (a : Act) (W : World) : Prop :=
  ∃ (x : Nat → Value) (cov : Nat → Bool), a = ⟨(frC q x (.int .i64 (i : Int)) (x 34) (x 36)).toArray, []⟩ ∧ Below q.W8.heap.size q.W8 W ∧ W.rowIs q.W8.heap.size 4 q.d.n (fun i => .bool (cov i)) ∧ ∀ i, i < q.d.n → (cov i = true ↔ q.d.CovB j i)

theorem RelC.mk {q : CC} {i j : Nat} {l : List Value} {W : World} {cov : Nat → Bool} (hf : l = frC q (nth l) (.int .i64 (i : Int)) (nth l 34) (nth l 36))
    (h1 : Below q.W8.heap.size q.W8 W) (h2 : W.rowIs q.W8.heap.size 4 q.d.n (fun i => .bool (cov i))) (h3 : ∀ i, i < q.d.n → (cov i = true ↔ q.d.CovB j i)) : RelC q i j ⟨l.toArray, []⟩ W :=
  ⟨nth l, cov, by rw [← hf], h1, h2, h3⟩

/-- the loop over the instructions that may cover; one of its rounds -/
noncomputable def L3 : Code := unloop (unblock (sndOf (leftOf (tail4 22))))
noncomputable def BL : Code := unblock (leftOf (sndOf L3))
theorem BL_eq : BL = .seq (leftOf BL) (right 1 BL) := rfl
theorem L3_eq : L3 = .seq (leftOf L3) (right 1 L3) := rfl

set_option maxHeartbeats 8000000 in
/-- does the instruction set a slot? -/
theorem cover_head {q : CC} (hq : q.Ok) {j : Nat} (hlt : j < q.d.n) {Q : Exit → Act → World → Prop} (h1 : q.d.sg j = true → ∀ a W, RelC q j j a W → (right 1 BL).wp Yba.prog Q a W) (h2 : ∀ a W, RelC q j (j + 1) a W → Q (.exit 7) a W) :
    ∀ a W, RelC q j j a W → BL.wp Yba.prog Q a W := by
  rintro a W ⟨x, cov, rfl, hbel, hrow, hcov⟩
  have hn4 := hq.ok.n4
  have hi4 : (j : Int) < (q.d.n : Int) := by omega
  have cK : W.cell? ⟨q.d.H + 4, j, none⟩ = some (.int .i64 (q.d.kd j : Int)) := cell_later hbel (cell_later hq.b78 (hq.lq.lb.c4 hlt))
  have A2 : Aside (Below q.W8.heap.size q.W8 W ∧ W.rowIs q.W8.heap.size 4 q.d.n (fun i => .bool (cov i)) ∧ ∀ i, i < q.d.n → (cov i = true ↔ q.d.CovB j i)) := ⟨hbel, hrow, hcov⟩
  rw [BL_eq]
  generalize right 1 BL = R at *
  generalize h0 : leftOf BL = c0
  conv at h0 => lhs; whnf
  subst h0
  obtain ⟨k, ek⟩ : ∃ k, k = q.d.kd j := ⟨_, rfl⟩
  rw [← ek] at cK
  have EK : Aside (k = q.d.kd j) := ek
  have H1 : Aside (q.d.sg j = true → ∀ a W, RelC q j j a W → R.wp Yba.prog Q a W) := h1
  have H2 : Aside (∀ a W, RelC q j (j + 1) a W → Q (.exit 7) a W) := h2
  clear h1 h2 hbel hrow hcov ek hq
  unfold frC frL2 fl
  conv => arg 3; whnf
  by_cases k1 : k = 1
  · subst k1
    rw [show ((1 : Nat) : Int) = 1 from rfl] at cK
    go_wp2
    obtain ⟨a1, a2, a3⟩ := A2.out
    exact H1.out ((q.d.sg_iff j).2 (.inl EK.out.symm)) _ _ (RelC.mk rfl a1 a2 a3)
  · by_cases k2 : k = 2
    · subst k2
      rw [show ((2 : Nat) : Int) = 2 from rfl] at cK
      go_wp2
      obtain ⟨a1, a2, a3⟩ := A2.out
      exact H1.out ((q.d.sg_iff j).2 (.inr EK.out.symm)) _ _ (RelC.mk rfl a1 a2 a3)
    · have n1 : ((k : Int) != 1) = true := by simp; omega
      have n2 : ((k : Int) != 2) = true := by simp; omega
      have EN : Aside (¬ k = 1 ∧ ¬ k = 2) := ⟨k1, k2⟩
      clear k1 k2
      go_wp2
      obtain ⟨a1, a2, a3⟩ := A2.out
      refine H2.out _ _ (RelC.mk rfl a1 a2 (fun i hi => ?_))
      rw [a3 i hi, LD.CovB_succ]
      refine ⟨.inl, fun h => h.elim id (fun h => ?_)⟩
      have := (q.d.sg_iff j).1 h.1
      have h5 := EN.out
      have h6 := EK.out
      omega
end Go.Proofs.Ybulkexnju.W
