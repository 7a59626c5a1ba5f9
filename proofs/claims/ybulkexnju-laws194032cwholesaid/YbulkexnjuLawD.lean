/-
  The law: what stands when the program has been built, cloned and looked at.
-/
import Derived.Test.YbulkexnjuLawC
namespace Go.Proofs.Ybulkexnju.W
open Go.RowKit Go.Proofs.Ybulkexnju.G
set_option linter.unusedVariables false
set_option maxRecDepth 100000

theorem info70 : (Yba.prog.info? 70).map (fun i => (i.zero, i.size, i.bytes)) = some (some (.int .u32 0), 1, 4) := by kernel_rfl
theorem info76 : (Yba.prog.info? 76).map (fun i => (i.zero, i.size, i.bytes)) = some (some (.agg #[.int .i64 0, .int .i64 0]), 2, 16) := by kernel_rfl

theorem make68 (kl kc : IntKind) (n : Nat) (hn : n ≤ 1048576) (w : World) : (Instr.makeSlice 68 (.int kl (n : Int)) (.int kc (n : Int))).run Yba.prog w = .ok (.slice (some ⟨w.heap.size, 0, none⟩) n n) (w.alloc (.cells (madeCells #[.int .u32 0] n) 70)) :=
  run_make_row' (P := Yba.prog) 68 70 (.int .u32 0) 4 Yba.underlying68 (by kernel_rfl) (by kernel_rfl) kl kc n (by omega) (by omega) w

theorem make75 (kl kc : IntKind) (n : Nat) (hn : n ≤ 1048576) (w : World) : (Instr.makeSlice 75 (.int kl (n : Int)) (.int kc (n : Int))).run Yba.prog w = .ok (.slice (some ⟨w.heap.size, 0, none⟩) n n) (w.alloc (.cells (madeCells #[.int .i64 0, .int .i64 0] (n * 2)) 76)) := by
  obtain ⟨i, hi, hzz⟩ := Option.map_eq_some_iff.1 info76
  simp only [Prod.mk.injEq] at hzz
  obtain ⟨hz, hs, hb⟩ := hzz
  have hr := run_make (P := Yba.prog) w 75 76 i _ Yba.underlying75 hi hz kl kc n n (by omega) (by omega) (by rw [hb]; omega) (by omega)
  simp only [Int.toNat_natCast, hs] at hr
  exact hr

def LD.V (d : LD) (gf gs : Nat) : VE := ⟨gf, d.H, d.H + 1, d.H + 3, d.H + 2, gs, d.n, d.ns, d.np, d.kd, d.tg, d.X⟩

theorem LD.Ok.vin {d : LD} (hd : d.Ok) {gf gs : Nat} {W : World} (h : LB d d.n d.n W) (fp : W.cell? ⟨gf, 1, none⟩ = some (.int .i64 d.np)) (fs : W.cell? ⟨gf, 2, none⟩ = some (.slice (some ⟨gs, 0, none⟩) d.ns d.ns)) (fc : W.cell? ⟨gf, 4, none⟩ = some (.slice (some ⟨d.H + 2, 0, none⟩) (5 * d.n) (5 * d.n))) (hgs : gs < W.heap.size) :
    (d.V gf gs).In W := by
  have hb := h.big
  have lf := World.block_lt_of_cell? _ _ fp
  have lf' : gf < W.heap.size := lf
  refine ⟨⟨lf', ?_, ?_, ?_, ?_, hgs⟩, hd.n4, hd.ns8, hd.nps, ?_, ?_, ?_, fun i hi => hd.x16 hi, fp, fs, fc, ?_, ?_, ?_, ?_⟩
  · show d.H < _; omega
  · show d.H + 1 < _; omega
  · show d.H + 3 < _; omega
  · show d.H + 2 < _; omega
  · intro i hi
    show d.O i % 9 < 9
    omega
  · intro i hi hj
    have hk : d.kd i = 3 ∨ d.kd i = 4 ∨ d.kd i = 5 := hj
    have hi' : i < d.n := hi
    refine ⟨Nat.mod_lt _ (show d.n > 0 by omega), ?_⟩
    show xV d.n d.ns d.O d.A i = 5 * (d.A i % d.n)
    unfold xV
    unfold LD.kd at hk
    rw [if_neg (by omega), if_pos (by omega)]
  · intro i hi hk
    have hk' : kdV d.O i ≤ 2 := hk
    show xV d.n d.ns d.O d.A i < d.ns
    unfold xV
    rw [if_pos hk']
    exact Nat.mod_lt _ (by have := hd.ns1; omega)
  · intro i hi
    have hi' : i < d.n := hi
    have := h.r0.cell hi'
    rw [if_pos hi'] at this
    exact this
  · intro i hi
    have hi' : i < d.n := hi
    have := h.r1.cell hi'
    rw [if_pos hi'] at this
    exact this
  · intro i hi
    have hi' : i < d.n := hi
    have := h.r3.cell (i := 5 * i) (by omega)
    rw [if_pos (by omega)] at this
    unfold idxV at this
    rw [if_pos (by omega), show 5 * i / 5 = i by omega] at this
    exact this
  · intro i hi
    have hi' : i < d.n := hi
    have x16 := hd.x16 hi'
    have k1 := h.r2.cell (i := 5 * i + 1) (by omega)
    have k2 := h.r2.cell (i := 5 * i + 1 + 1) (by omega)
    have k3 := h.r2.cell (i := 5 * i + 1 + 2) (by omega)
    have k4 := h.r2.cell (i := 5 * i + 1 + 3) (by omega)
    rw [if_pos (by omega)] at k1 k2 k3 k4
    unfold codeV at k1 k2 k3 k4
    rw [if_neg (by omega), if_pos (by omega), show (5 * i + 1) / 5 = i by omega] at k1
    rw [if_neg (by omega), if_neg (by omega), if_pos (by omega), show (5 * i + 1 + 1) / 5 = i by omega] at k2
    rw [if_neg (by omega), if_neg (by omega), if_neg (by omega)] at k3 k4
    exact ⟨k1, k2, k3, k4⟩

/-- slot x is watched -/
def LD.Wat (d : LD) (x : Nat) : Prop := Watched d.n (EI d.n d.kd d.tg) (fun i => isRd (opc (d.kd i))) (fun i => isSg (opc (d.kd i))) d.X d.np x

/-- nil, or a row that marks the slots that are watched -/
def GotP (d : LD) (r : Value) (W : World) : Prop :=
  (r = .slice none 0 0 ∧ ∀ x, ¬ d.Wat x) ∨ ∃ (b : Nat) (f : Nat → Bool), r = .slice (some ⟨b, 0, none⟩) d.ns d.ns ∧ (∀ x, x < d.ns → W.cell? ⟨b, x, none⟩ = some (.bool (f x))) ∧ (∀ x, x < d.ns → (f x = true ↔ d.Wat x)) ∧ ∃ x, x < d.ns ∧ d.Wat x

/-- what stands in memory when watchedVars has answered -/
structure LQ (d : LD) (g7 g8 g9 g10 gf gs : Nat) (r : Value) (W : World) : Prop where
  lb : LB d d.n d.n W
  k7 : ∀ i, i < d.n → W.cell? ⟨g7, i, none⟩ = some (.int .u8 (opc (d.kd i)))
  k8 : ∀ i, i < d.n → W.cell? ⟨g8, i, none⟩ = some (.int .i64 (5 * (i : Int)))
  k9 : ∀ e, e < 5 * d.n → W.cell? ⟨g9, e, none⟩ = some (.int .i32 (idxV e))
  k10 : ∀ e, e < 5 * d.n → W.cell? ⟨g10, e, none⟩ = some (.int .u8 (codeV d e))
  fp : W.cell? ⟨gf, 1, none⟩ = some (.int .i64 d.np)
  fs : W.cell? ⟨gf, 2, none⟩ = some (.slice (some ⟨gs, 0, none⟩) d.ns d.ns)
  fc : W.cell? ⟨gf, 4, none⟩ = some (.slice (some ⟨d.H + 2, 0, none⟩) (5 * d.n) (5 * d.n))
  got : GotP d r W

/-- the frame from then on -/
def frL2 (d : LD) (x : Nat → Value) (g7 g8 g9 g10 gf c7 c8 c9 c10 : Nat) (r : Value) (Su : Nat) (v31 v32 v33 v34 v36 : Value) : List Value :=
  fl x d.H d.n d.ns d.np (5 * d.n) (x 16) (x 17) (x 18) (x 19) (x 20) (.slice (some ⟨g7, 0, none⟩) d.n c7) (.slice (some ⟨g8, 0, none⟩) d.n c8) (.slice (some ⟨g9, 0, none⟩) (5 * d.n) c9) (.slice (some ⟨g10, 0, none⟩) (5 * d.n) c10) (.pointer (some ⟨gf, 0, none⟩)) r (.slice (some ⟨Su, 0, none⟩) d.n d.n) v31 v32 v33 v34 v36 (x 66) (x 67) (x 68)

/-- the successors of the instructions are known: region 77 is next -/
def RelL2 (d : LD) (a : Act) (W : World) : Prop :=
  ∃ (x : Nat → Value) (g7 g8 g9 g10 gf gs c7 c8 c9 c10 : Nat) (r : Value) (W7 : World), a = ⟨(frL2 d x g7 g8 g9 g10 gf c7 c8 c9 c10 r W7.heap.size (x 31) (x 32) (x 33) (x 34) (x 36)).toArray, []⟩ ∧ LQ d g7 g8 g9 g10 gf gs r W7 ∧ Below W7.heap.size W7 W ∧ W.rowIs W7.heap.size 76 (2 * d.n) (fun e => .int .i64 (sI d.n d.kd d.tg e))

theorem RelL2.mk {d : LD} {l : List Value} {W : World} {g7 g8 g9 g10 gf gs c7 c8 c9 c10 : Nat} {r : Value} {W7 : World} (hf : l = frL2 d (nth l) g7 g8 g9 g10 gf c7 c8 c9 c10 r W7.heap.size (nth l 31) (nth l 32) (nth l 33) (nth l 34) (nth l 36))
    (h1 : LQ d g7 g8 g9 g10 gf gs r W7) (h2 : Below W7.heap.size W7 W) (h3 : W.rowIs W7.heap.size 76 (2 * d.n) (fun e => .int .i64 (sI d.n d.kd d.tg e))) : RelL2 d ⟨l.toArray, []⟩ W :=
  ⟨nth l, g7, g8, g9, g10, gf, gs, c7, c8, c9, c10, r, W7, by rw [← hf], h1, h2, h3⟩
end Go.Proofs.Ybulkexnju.W
