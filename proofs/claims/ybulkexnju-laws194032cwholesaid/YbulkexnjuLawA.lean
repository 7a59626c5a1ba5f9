/-
  The law: what it is handed, the rows that it builds, the code behind each cut, the frame there.
-/
import Derived.Test.YbulkexnjuVarsM
namespace Go.Proofs.Ybulkexnju.W
open Go.RowKit Go.Proofs.Ybulkexnju.G
set_option linter.unusedVariables false
set_option maxRecDepth 100000

noncomputable def tail4 (n : Nat) : Code := right n (Yba.f4.body.getD .skip)
/-- the body of the loop that builds the program -/
noncomputable def BB : Code := unblock (leftOf (right 2 (unloop (unblock (sndOf (leftOf (tail4 11)))))))

/-- the program that is drawn: its kinds, where its jumps go to, its operands -/
def kdV (O : Nat → Nat) (i : Nat) : Nat := O i % 9
def tgV (n : Nat) (A : Nat → Nat) (i : Nat) : Nat := A i % n
def xV (n ns : Nat) (O A : Nat → Nat) (i : Nat) : Nat := if kdV O i ≤ 2 then A i % ns else if kdV O i ≤ 5 then 5 * (A i % n) else A i

structure LD where
  w : World
  n : Nat
  ns : Nat
  np : Nat
  O : Nat → Nat
  A : Nat → Nat
def LD.H (d : LD) : Nat := d.w.heap.size
def LD.kd (d : LD) (i : Nat) : Nat := kdV d.O i
def LD.tg (d : LD) (i : Nat) : Nat := tgV d.n d.A i
def LD.X (d : LD) (i : Nat) : Nat := xV d.n d.ns d.O d.A i

structure LD.Ok (d : LD) : Prop where
  n4 : d.n ≤ 4096
  ns1 : 1 ≤ d.ns
  ns8 : d.ns ≤ 8
  nps : d.np ≤ d.ns
  ob : ∀ i, i < d.n → d.O i < 256
  ab : ∀ i, i < d.n → d.A i < 65536

def codeV (d : LD) (e : Nat) : Int := if e % 5 = 0 then opc (d.kd (e / 5)) else if e % 5 = 1 then ((d.X (e / 5) % 256 : Nat) : Int) else if e % 5 = 2 then ((d.X (e / 5) / 256 : Nat) : Int) else 0
def idxV (e : Nat) : Int := if e % 5 = 0 then ((e / 5 : Nat) : Int) else 0

theorem LD.Ok.x16 {d : LD} (h : d.Ok) {i : Nat} (hi : i < d.n) : d.X i < 65536 := by
  have h1 := h.ab i hi
  have h2 := h.n4
  have h3 := h.ns8
  have h4 := h.ns1
  unfold LD.X xV
  have h5 := Nat.mod_lt (d.A i) (show d.ns > 0 by omega)
  have h6 := Nat.mod_lt (d.A i) (show d.n > 0 by omega)
  split
  · omega
  · split
    · omega
    · omega

/-- the rows that are built: those of offsets and index are built below j1, the others below j -/
structure LB (d : LD) (j j1 : Nat) (W : World) : Prop where
  r0 : W.rowIs d.H 61 d.n (fun i => .int .u8 (if i < j then opc (d.kd i) else 0))
  r1 : W.rowIs (d.H + 1) 3 d.n (fun i => .int .i64 (if i < j1 then 5 * (i : Int) else 0))
  r2 : W.rowIs (d.H + 2) 5 (5 * d.n) (fun e => .int .u8 (if e < 5 * j then codeV d e else 0))
  r3 : W.rowIs (d.H + 3) 21 (5 * d.n) (fun e => .int .i32 (if e < 5 * j1 then idxV e else 0))
  r4 : W.rowIs (d.H + 4) 3 d.n (fun i => .int .i64 (if i < j then (d.kd i : Int) else 0))
  r5 : W.rowIs (d.H + 5) 3 d.n (fun i => .int .i64 (if i < j then (d.X i : Int) else 0))
  bel : Below d.H d.w W

theorem LB.later {d : LD} {j j1 : Nat} {W W' : World} (h : LB d j j1 W) (hb : Below (d.H + 6) W W') : LB d j j1 W' :=
  ⟨h.r0.of_block (hb.block _ (by omega)), h.r1.of_block (hb.block _ (by omega)), h.r2.of_block (hb.block _ (by omega)), h.r3.of_block (hb.block _ (by omega)), h.r4.of_block (hb.block _ (by omega)), h.r5.of_block (hb.block _ (by omega)), h.bel.trans (hb.mono (by omega))⟩

theorem LB.big {d : LD} {j j1 : Nat} {W : World} (h : LB d j j1 W) : d.H + 6 ≤ W.heap.size := h.r5.lt

def fl (x : Nat → Value) (H n ns np m5 : Nat) (v16 v17 v18 v19 v20 v21 v22 v23 v24 v25 v26 v27 v31 v32 v33 v34 v36 v66 v67 v68 : Value) : List Value :=
  [x 0, x 1, x 2, x 3, x 4, x 5, x 6, .int .i64 (n : Int), .int .i64 (ns : Int), .int .i64 (np : Int), .slice (some ⟨H, 0, none⟩) n n, .slice (some ⟨H + 1, 0, none⟩) n n, .slice (some ⟨H + 2, 0, none⟩) m5 m5, .slice (some ⟨H + 3, 0, none⟩) m5 m5, .slice (some ⟨H + 4, 0, none⟩) n n, .slice (some ⟨H + 5, 0, none⟩) n n, v16, v17, v18, v19, v20, v21, v22, v23, v24, v25, v26, v27, x 28, x 29, x 30, v31, v32, v33, v34, x 35, v36, x 37, x 38, x 39, x 40, x 41, x 42, x 43, x 44, x 45, x 46, x 47, x 48, x 49, x 50, x 51, x 52, x 53, x 54, x 55, x 56, x 57, x 58, x 59, x 60, x 61, x 62, x 63, x 64, x 65, v66, v67, v68, x 69, x 70, x 71, x 72, x 73, x 74, x 75, x 76, x 77, x 78, x 79, x 80, x 81, x 82, x 83, x 84, x 85, x 86, x 87, x 88, x 89, x 90, x 91, x 92, x 93, x 94, x 95, x 96, x 97, x 98, x 99, x 100, x 101, x 102, x 103, x 104, x 105, x 106, x 107, x 108, x 109, x 110, x 111, x 112, x 113, x 114, x 115, x 116, x 117, x 118, x 119, x 120, x 121, x 122, x 123, x 124, x 125, x 126, x 127, x 128, x 129, x 130, x 131, x 132, x 133, x 134, x 135, x 136, x 137, x 138, x 139, x 140, x 141, x 142, x 143, x 144, x 145, x 146, x 147, x 148, x 149, x 150, x 151, x 152, x 153, x 154, x 155, x 156, x 157, x 158, x 159, x 160, x 161, x 162, x 163, x 164, x 165, x 166, x 167, x 168, x 169, x 170, x 171, x 172, x 173, x 174, x 175, x 176, x 177, x 178, x 179, x 180, x 181, x 182, x 183, x 184, x 185, x 186, x 187, x 188, x 189, x 190, x 191, x 192, x 193, x 194, x 195, x 196, x 197, x 198, x 199, x 200, x 201, x 202, x 203, x 204, x 205, x 206, x 207, x 208, x 209, x 210, x 211, x 212, x 213, x 214, x 215, x 216, x 217, x 218, x 219, x 220, x 221, x 222, x 223, x 224, x 225, x 226, x 227, x 228, x 229, x 230, x 231, x 232, x 233, x 234, x 235, x 236, x 237, x 238, x 239, x 240, x 241, x 242, x 243, x 244, x 245, x 246, x 247, x 248, x 249, x 250, x 251, x 252, x 253, x 254, x 255, x 256, x 257, x 258, x 259, x 260, x 261, x 262, x 263, x 264, x 265, x 266, x 267, x 268, x 269, x 270, x 271, x 272, x 273, x 274, x 275, x 276, x 277, x 278, x 279, x 280, x 281, x 282, x 283, x 284, x 285, x 286, x 287, x 288, x 289, x 290, x 291, x 292, x 293, x 294, x 295, x 296, x 297, x 298, x 299, x 300, x 301, x 302, x 303, x 304, x 305, x 306, x 307, x 308, x 309, x 310, x 311, x 312, x 313, x 314, x 315, x 316, x 317, x 318, x 319, x 320, x 321, x 322, x 323, x 324, x 325, x 326, x 327, x 328, x 329, x 330, x 331, x 332, x 333, x 334, x 335, x 336, x 337, x 338, x 339, x 340, x 341, x 342, x 343, x 344, x 345, x 346, x 347, x 348, x 349, x 350, x 351, x 352, x 353, x 354, x 355, x 356, x 357, x 358, x 359, x 360, x 361, x 362, x 363, x 364, x 365, x 366, x 367, x 368, x 369, x 370, x 371, x 372, x 373, x 374, x 375, x 376, x 377, x 378, x 379, x 380, x 381, x 382, x 383, x 384, x 385, x 386, x 387, x 388, x 389, x 390, x 391, x 392, x 393, x 394, x 395, x 396, x 397, x 398, x 399, x 400, x 401, x 402, x 403, x 404, x 405, x 406, x 407, x 408, x 409, x 410, x 411, x 412, x 413]

/-- the frame, while the program is built -/
def frL1 (d : LD) (x : Nat → Value) (v16 v17 v18 v19 v20 v66 v68 : Value) : List Value :=
  fl x d.H d.n d.ns d.np (5 * d.n) v16 v17 v18 v19 v20 (x 21) (x 22) (x 23) (x 24) (x 25) (x 26) (x 27) (x 31) (x 32) (x 33) (x 34) (x 36) v66 (.int .i64 (d.n : Int)) v68

/-- the kind and the operand of instruction i are known: region 44 is next -/
def RelK (d : LD) (sl : Value) (i : Nat) (a : Act) (W : World) : Prop :=
  ∃ (x : Nat → Value), a = ⟨(frL1 d x (.int .i64 (i : Int)) (x 17) (.int .i64 (d.kd i : Int)) (.int .i64 (d.X i : Int)) (.int .u8 (opc (d.kd i))) sl (.int .i64 (i : Int))).toArray, []⟩ ∧ LB d i (i + 1) W

theorem RelK.mk {d : LD} {sl : Value} {i : Nat} {l : List Value} {W : World} (hf : l = frL1 d (nth l) (.int .i64 (i : Int)) (nth l 17) (.int .i64 (d.kd i : Int)) (.int .i64 (d.X i : Int)) (.int .u8 (opc (d.kd i))) sl (.int .i64 (i : Int))) (h : LB d i (i + 1) W) : RelK d sl i ⟨l.toArray, []⟩ W :=
  ⟨nth l, by rw [← hf], h⟩

/-- at the loop's head: the counter is i, the rows are built below j -/
def RelH (d : LD) (sl : Value) (i j : Nat) (a : Act) (W : World) : Prop :=
  ∃ (x : Nat → Value), a = ⟨(frL1 d x (x 16) (x 17) (x 18) (x 19) (x 20) sl (.int .i64 (i : Int))).toArray, []⟩ ∧ LB d j j W

theorem RelH.mk {d : LD} {sl : Value} {i j : Nat} {l : List Value} {W : World} (hf : l = frL1 d (nth l) (nth l 16) (nth l 17) (nth l 18) (nth l 19) (nth l 20) sl (.int .i64 (i : Int))) (h : LB d j j W) : RelH d sl i j ⟨l.toArray, []⟩ W :=
  ⟨nth l, by rw [← hf], h⟩

theorem opc_bd (k : Nat) : 0 ≤ opc k ∧ opc k < 256 := by
  unfold opc
  split <;> omega

/-- one instruction's stores -/
theorem LB.step {d : LD} {i H X e0 : Nat} {W : World} (h : LB d i (i + 1) W) (eH : H = d.H) (eX : X = d.X i) (he : e0 = 5 * i) (hX : X < 65536) :
    LB d (i + 1) (i + 1) ((((((((W.setCell ⟨H, i, none⟩ (.int .u8 (opc (d.kd i)))).setCell ⟨H + 4, i, none⟩ (.int .i64 (d.kd i : Int))).setCell ⟨H + 5, i, none⟩ (.int .i64 (X : Int))).setCell ⟨H + 2, e0, none⟩ (.int .u8 (opc (d.kd i)))).setCell ⟨H + 2, e0 + 1, none⟩ (.int .u8 ((X : Int) % 256))).setCell ⟨H + 2, e0 + 2, none⟩ (.int .u8 ((X : Int) / 256))).setCell ⟨H + 2, e0 + 3, none⟩ (.int .u8 ((X : Int) / 65536))).setCell ⟨H + 2, e0 + 4, none⟩ (.int .u8 ((X : Int) / 16777216))) := by
  subst eH
  have n01 : d.H ≠ d.H + 4 := by omega
  have n02 : d.H ≠ d.H + 5 := by omega
  have n03 : d.H ≠ d.H + 2 := by omega
  have n11 : d.H + 1 ≠ d.H := by omega
  have n12 : d.H + 1 ≠ d.H + 4 := by omega
  have n13 : d.H + 1 ≠ d.H + 5 := by omega
  have n14 : d.H + 1 ≠ d.H + 2 := by omega
  have n21 : d.H + 2 ≠ d.H := by omega
  have n22 : d.H + 2 ≠ d.H + 4 := by omega
  have n23 : d.H + 2 ≠ d.H + 5 := by omega
  have n31 : d.H + 3 ≠ d.H := by omega
  have n32 : d.H + 3 ≠ d.H + 4 := by omega
  have n33 : d.H + 3 ≠ d.H + 5 := by omega
  have n34 : d.H + 3 ≠ d.H + 2 := by omega
  have n41 : d.H + 4 ≠ d.H := by omega
  have n42 : d.H + 4 ≠ d.H + 5 := by omega
  have n43 : d.H + 4 ≠ d.H + 2 := by omega
  have n51 : d.H + 5 ≠ d.H := by omega
  have n52 : d.H + 5 ≠ d.H + 4 := by omega
  have n53 : d.H + 5 ≠ d.H + 2 := by omega
  refine ⟨?_, ?_, ?_, ?_, ?_, ?_, ?_⟩
  · refine ((((((((h.r0.set i _).setOther n01 _).setOther n02 _).setOther n03 _).setOther n03 _).setOther n03 _).setOther n03 _).setOther n03 _).congr (fun j _ => ?_)
    by_cases c : j = i
    · rw [if_pos c, if_pos (by omega), c]
    · rw [if_neg c]
      by_cases c2 : j < i
      · rw [if_pos c2, if_pos (by omega)]
      · rw [if_neg c2, if_neg (by omega)]
  · exact (((((((h.r1.setOther n11 _).setOther n12 _).setOther n13 _).setOther n14 _).setOther n14 _).setOther n14 _).setOther n14 _).setOther n14 _
  · refine ((((((((h.r2.setOther n21 _).setOther n22 _).setOther n23 _).set e0 _).set (e0 + 1) _).set (e0 + 2) _).set (e0 + 3) _).set (e0 + 4) _).congr (fun e _ => ?_)
    by_cases c4 : e = e0 + 4
    · rw [if_pos c4, if_pos (by omega), show (X : Int) / 16777216 = 0 by omega]
      unfold codeV
      rw [if_neg (by omega), if_neg (by omega), if_neg (by omega)]
    · rw [if_neg c4]
      by_cases c3 : e = e0 + 3
      · rw [if_pos c3, if_pos (by omega), show (X : Int) / 65536 = 0 by omega]
        unfold codeV
        rw [if_neg (by omega), if_neg (by omega), if_neg (by omega)]
      · rw [if_neg c3]
        by_cases c2 : e = e0 + 2
        · rw [if_pos c2, if_pos (by omega)]
          unfold codeV
          rw [if_neg (by omega), if_neg (by omega), if_pos (by omega), show e / 5 = i by omega, ← eX]
          congr 1
        · rw [if_neg c2]
          by_cases c1 : e = e0 + 1
          · rw [if_pos c1, if_pos (by omega)]
            unfold codeV
            rw [if_neg (by omega), if_pos (by omega), show e / 5 = i by omega, ← eX]
            congr 1
          · rw [if_neg c1]
            by_cases c0 : e = e0
            · rw [if_pos c0, if_pos (by omega)]
              unfold codeV
              rw [if_pos (by omega), show e / 5 = i by omega]
            · rw [if_neg c0]
              by_cases c : e < 5 * i
              · rw [if_pos c, if_pos (by omega)]
              · rw [if_neg c, if_neg (by omega)]
  · exact (((((((h.r3.setOther n31 _).setOther n32 _).setOther n33 _).setOther n34 _).setOther n34 _).setOther n34 _).setOther n34 _).setOther n34 _
  · refine ((((((((h.r4.setOther n41 _).set i _).setOther n42 _).setOther n43 _).setOther n43 _).setOther n43 _).setOther n43 _).setOther n43 _).congr (fun j _ => ?_)
    by_cases c : j = i
    · rw [if_pos c, if_pos (by omega), c]
    · rw [if_neg c]
      by_cases c2 : j < i
      · rw [if_pos c2, if_pos (by omega)]
      · rw [if_neg c2, if_neg (by omega)]
  · refine ((((((((h.r5.setOther n51 _).setOther n52 _).set i _).setOther n53 _).setOther n53 _).setOther n53 _).setOther n53 _).setOther n53 _).congr (fun j _ => ?_)
    by_cases c : j = i
    · rw [if_pos c, if_pos (by omega), c, eX]
    · rw [if_neg c]
      by_cases c2 : j < i
      · rw [if_pos c2, if_pos (by omega)]
      · rw [if_neg c2, if_neg (by omega)]
  · have s0 : d.H ≤ d.H + 2 := by omega
    have s1 : d.H ≤ d.H + 4 := by omega
    have s2 : d.H ≤ d.H + 5 := by omega
    exact (((((((h.bel.setCell (p := ⟨d.H, i, none⟩) (Nat.le_refl _) _).setCell (p := ⟨d.H + 4, i, none⟩) s1 _).setCell (p := ⟨d.H + 5, i, none⟩) s2 _).setCell (p := ⟨d.H + 2, e0, none⟩) s0 _).setCell (p := ⟨d.H + 2, e0 + 1, none⟩) s0 _).setCell (p := ⟨d.H + 2, e0 + 2, none⟩) s0 _).setCell (p := ⟨d.H + 2, e0 + 3, none⟩) s0 _).setCell (p := ⟨d.H + 2, e0 + 4, none⟩) s0 _

set_option maxHeartbeats 8000000 in
theorem build_tail {d : LD} (hd : d.Ok) {sl : Value} {i : Nat} (hi : i < d.n) {Q : Exit → Act → World → Prop} (hnext : ∀ a W, RelH d sl i (i + 1) a W → Q .normal a W) :
    ∀ a W, RelK d sl i a W → (right 7 BB).wp Yba.prog Q a W := by
  rintro a W ⟨x, rfl, hlb⟩
  have hn4 := hd.n4
  have hx := hd.x16 hi
  have hii : (i : Int) < (d.n : Int) := by omega
  obtain ⟨e0, he0⟩ : ∃ e0, e0 = 5 * i := ⟨_, rfl⟩
  have b5 : 5 * (i : Int) = (e0 : Int) := by omega
  obtain ⟨m5, hm5⟩ : ∃ m5, m5 = 5 * d.n := ⟨_, rfl⟩
  have g0 : (e0 : Int) < (m5 : Int) := by omega
  have g1 : (e0 : Int) + 1 < (m5 : Int) := by omega
  have g2 : (e0 : Int) + 2 < (m5 : Int) := by omega
  have g3 : (e0 : Int) + 3 < (m5 : Int) := by omega
  have g4 : (e0 : Int) + 4 < (m5 : Int) := by omega
  have c0 := hlb.r0.cell hi
  have f0 := hlb.r0.frozen i
  have c4 := hlb.r4.cell hi
  have f4 := hlb.r4.frozen i
  have c5 := hlb.r5.cell hi
  have f5 := hlb.r5.frozen i
  have k0 := hlb.r2.cell (i := e0) (by omega)
  have k1 := hlb.r2.cell (i := e0 + 1) (by omega)
  have k2 := hlb.r2.cell (i := e0 + 2) (by omega)
  have k3 := hlb.r2.cell (i := e0 + 3) (by omega)
  have k4 := hlb.r2.cell (i := e0 + 4) (by omega)
  have l0 := hlb.r2.frozen e0
  have l1 := hlb.r2.frozen (e0 + 1)
  have l2 := hlb.r2.frozen (e0 + 2)
  have l3 := hlb.r2.frozen (e0 + 3)
  have l4 := hlb.r2.frozen (e0 + 4)
  have A : Aside (LB d i (i + 1) W) := hlb
  obtain ⟨H, eH⟩ : ∃ H, H = d.H := ⟨_, rfl⟩
  rw [← eH] at c0 f0 c4 f4 c5 f5 k0 k1 k2 k3 k4 l0 l1 l2 l3 l4
  obtain ⟨X, eX⟩ : ∃ X, X = d.X i := ⟨_, rfl⟩
  rw [← eX] at hx
  have hxi : (X : Int) < 65536 := by omega
  unfold frL1 fl
  rw [← hm5, ← eH, ← eX]
  have HX : Aside (∀ a W, RelH d sl i (i + 1) a W → Q .normal a W) := hnext
  have E : Aside (H = d.H ∧ X = d.X i ∧ e0 = 5 * i ∧ m5 = 5 * d.n) := ⟨eH, eX, he0, hm5⟩
  clear hlb hnext hd eH eX he0 hm5
  conv => arg 2; whnf
  go_wp2
  obtain ⟨eH, eX, he0, hm5⟩ := E.out
  refine HX.out _ _ (RelH.mk (by unfold frL1; rw [← eH, ← hm5]; rfl) (LB.step A.out eH eX he0 (by omega)))
end Go.Proofs.Ybulkexnju.W
