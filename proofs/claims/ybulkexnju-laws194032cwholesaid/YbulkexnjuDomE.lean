/-
  region 51: in whatever order its operations come.
-/
import Derived.Test.YbulkexnjuDom7
namespace Go.Proofs.Ybulkexnju.W
open Go.RowKit Go.Proofs.Ybulkexnju.G
set_option linter.unusedVariables false
set_option maxRecDepth 100000

def fr51 (x : Nat → Value) (v2 v3 v4 v6 v10 v14 v15 v16 v17 v18 v19 v20 v22 v23 v24 : Value) (s : Nat → Value) : List Value :=
  [x 0, x 1, v2, v3, v4, x 5, v6, x 7, x 8, x 9, v10, x 11, x 12, x 13, v14, v15, v16, v17, v18, v19, v20, x 21, v22, v23, v24, x 25, x 26, x 27, x 28, x 29, x 30, x 31, x 32, x 33, x 34, x 35, x 36, x 37, x 38, x 39, x 40, x 41, x 42, x 43, x 44, x 45, x 46, x 47, x 48, x 49, x 50, x 51, x 52, x 53, x 54, x 55, x 56, x 57, x 58, x 59, x 60, x 61, x 62, x 63, x 64, x 65, x 66, x 67, x 68, x 69, x 70, x 71, x 72, x 73, x 74, x 75, x 76, x 77, x 78, x 79, x 80, x 81, x 82, x 83, x 84, x 85, x 86, x 87, x 88, x 89, x 90, x 91, x 92, x 93, x 94, x 95, x 96, x 97, x 98, x 99, x 100, x 101, x 102, x 103, x 104, x 105, x 106, x 107, x 108, x 109, x 110, x 111, x 112, x 113, x 114, x 115, x 116, x 117, x 118, x 119, x 120, x 121, x 122, x 123, x 124, x 125, x 126, x 127, x 128, x 129, x 130, x 131, x 132, x 133, x 134, x 135, x 136, x 137, x 138, x 139, x 140, x 141, x 142, x 143, x 144, x 145, x 146, x 147, x 148, x 149, x 150, x 151, x 152, x 153, x 154, x 155, x 156, x 157, x 158, x 159, x 160, x 161, x 162, x 163, x 164, x 165, x 166, x 167, x 168, x 169, x 170, x 171, x 172, x 173, x 174, x 175, x 176, x 177, x 178, x 179, x 180, x 181, x 182, x 183, x 184, x 185, x 186, x 187, x 188, x 189, x 190, x 191, x 192, x 193, x 194, x 195, x 196, x 197, x 198, x 199, x 200, x 201, x 202, x 203, x 204, x 205, x 206, x 207, x 208, x 209, x 210, x 211, x 212, x 213, x 214, x 215, x 216, x 217, x 218, x 219, x 220, x 221, x 222, x 223, x 224, x 225, x 226, x 227, x 228, x 229, x 230, x 231, x 232, x 233, x 234, x 235, x 236, x 237, x 238, x 239, x 240, x 241, x 242, x 243, x 244, x 245, x 246, x 247, x 248, x 249, x 250, s 251, s 252, s 253, s 254, s 255, s 256, s 257, s 258, s 259, s 260, s 261, s 262, s 263, s 264, s 265, s 266, s 267, x 268, x 269, x 270, x 271, x 272, x 273, x 274, x 275, x 276, x 277, x 278, x 279, x 280, x 281, x 282, x 283, x 284, x 285, x 286, x 287, x 288, x 289, x 290, x 291, x 292, x 293, x 294, x 295, x 296, x 297, x 298, x 299, x 300, x 301, x 302, x 303, x 304, x 305, x 306, x 307, x 308, x 309, x 310, x 311, x 312, x 313, x 314, x 315, x 316, x 317, x 318, x 319, x 320, x 321, x 322, x 323, x 324, x 325, x 326, x 327, x 328, x 329, x 330, x 331, x 332, x 333, x 334, x 335, x 336]

theorem fr51_put (x : Nat → Value) (v2 v3 v4 v6 v10 v14 v15 v16 v17 v18 v19 v20 v22 v23 v24 : Value) (s : Nat → Value) (d : Nat) (v : Value) (hd : d = 251 ∨ d = 252 ∨ d = 253 ∨ d = 254 ∨ d = 255 ∨ d = 256 ∨ d = 257 ∨ d = 258 ∨ d = 259 ∨ d = 260 ∨ d = 261 ∨ d = 262 ∨ d = 263 ∨ d = 264 ∨ d = 265 ∨ d = 266 ∨ d = 267) :
    (Act.mk (fr51 x v2 v3 v4 v6 v10 v14 v15 v16 v17 v18 v19 v20 v22 v23 v24 s).toArray []).put (some d) v = ⟨(fr51 x v2 v3 v4 v6 v10 v14 v15 v16 v17 v18 v19 v20 v22 v23 v24 (upd s d v)).toArray, []⟩ := by
  rcases hd with e | e | e | e | e | e | e | e | e | e | e | e | e | e | e | e | e <;> subst e <;> rfl
theorem fr51_eval (x : Nat → Value) (v2 v3 v4 v6 v10 v14 v15 v16 v17 v18 v19 v20 v22 v23 v24 : Value) (s : Nat → Value) (d : Nat) (hd : d = 251 ∨ d = 252 ∨ d = 253 ∨ d = 254 ∨ d = 255 ∨ d = 256 ∨ d = 257 ∨ d = 258 ∨ d = 259 ∨ d = 260 ∨ d = 261 ∨ d = 262 ∨ d = 263 ∨ d = 264 ∨ d = 265 ∨ d = 266 ∨ d = 267) :
    (Act.mk (fr51 x v2 v3 v4 v6 v10 v14 v15 v16 v17 v18 v19 v20 v22 v23 v24 s).toArray []).eval (.tmp d) = s d := by
  rcases hd with e | e | e | e | e | e | e | e | e | e | e | e | e | e | e | e | e <;> subst e <;> rfl
theorem fr51_16 (x : Nat → Value) (v2 v3 v4 v6 v10 v14 v15 v16 v17 v18 v19 v20 v22 v23 v24 : Value) (s : Nat → Value) : (Act.mk (fr51 x v2 v3 v4 v6 v10 v14 v15 v16 v17 v18 v19 v20 v22 v23 v24 s).toArray []).eval (.tmp 16) = v16 := rfl
theorem fr51_19 (x : Nat → Value) (v2 v3 v4 v6 v10 v14 v15 v16 v17 v18 v19 v20 v22 v23 v24 : Value) (s : Nat → Value) : (Act.mk (fr51 x v2 v3 v4 v6 v10 v14 v15 v16 v17 v18 v19 v20 v22 v23 v24 s).toArray []).eval (.tmp 19) = v19 := rfl
theorem fr51_20 (x : Nat → Value) (v2 v3 v4 v6 v10 v14 v15 v16 v17 v18 v19 v20 v22 v23 v24 : Value) (s : Nat → Value) : (Act.mk (fr51 x v2 v3 v4 v6 v10 v14 v15 v16 v17 v18 v19 v20 v22 v23 v24 s).toArray []).eval (.tmp 20) = v20 := rfl
theorem fr51_24 (x : Nat → Value) (v2 v3 v4 v6 v10 v14 v15 v16 v17 v18 v19 v20 v22 v23 v24 : Value) (s : Nat → Value) : (Act.mk (fr51 x v2 v3 v4 v6 v10 v14 v15 v16 v17 v18 v19 v20 v22 v23 v24 s).toArray []).eval (.tmp 24) = v24 := rfl

noncomputable def reg51 : Code := leftOf (right 1 C9)
noncomputable def ops51 : Array Oper := opsOf reg51
theorem reg51_eq : reg51 = .region 51 ops51 true := rfl
theorem ops51_size : ops51.size = 19 := rfl
theorem edges51 : (List.range 19).all (fun i => match ops51[i]? with | some o => o.after.all (fun e => !Region.binds .any e || decide (e.on < i)) | none => true) = true := by kernel_rfl

theorem edge_lt51 {i : Nat} {o : Oper} (hi : i < 19) (ho : ops51[i]? = some o) : ∀ e ∈ o.after, Region.binds .any e = true → e.on < i := by
  have h := List.all_eq_true.1 edges51 i (List.mem_range.2 hi)
  rw [ho] at h
  intro e he hb
  have := (Array.all_eq_true_iff_forall_mem.1 h) e he
  rw [hb] at this
  exact of_decide_eq_true (by simpa using this)

theorem all51 {listed : Array Bool} (hs : listed.size = 19) (hr : Region.ready .any ops51 listed = []) : ∀ i, i < 19 → listed.getD i false = true := by
  intro i
  induction i using Nat.strongRecOn with
  | _ i ih =>
    intro hi
    cases hl : listed.getD i false with
    | true => rfl
    | false =>
      exfalso
      have hlt : i < ops51.size := by rw [ops51_size]; exact hi
      have hm : i ∈ Region.ready .any ops51 listed := mem_ready.2 ⟨by
        rw [Array.getD_eq_getD_getElem?] at hl ⊢
        cases e : listed[i]? with
        | none => have := Array.getElem?_eq_none_iff.1 e; omega
        | some b => rw [e] at hl; simpa using hl, ops51[i], Array.getElem?_eq_getElem hlt, fun e he hb => by
        have h := edge_lt51 hi (Array.getElem?_eq_getElem hlt) e he hb
        exact ih e.on h (by omega)⟩
      rw [hr] at hm
      cases hm

theorem pred51 {i p : Nat} {o : Oper} {listed : Array Bool} (hb : ((ops51[i]?).map (fun o => o.after.any (fun e => e.on == p && Region.binds .any e))).getD false = true) (ho : ops51[i]? = some o)
    (hpre : ∀ e ∈ o.after, Region.binds .any e = true → listed.getD e.on false = true) : listed.getD p false = true := by
  rw [ho] at hb
  obtain ⟨e, he, h⟩ := Array.any_eq_true'.1 (show o.after.any (fun e => e.on == p && Region.binds .any e) = true from hb)
  simp only [Bool.and_eq_true, beq_iff_eq] at h
  rw [← h.1]
  exact hpre e he h.2

section
variable {P : Program} {o : Oper} {a : Act} {w : World} {K : Act → World → Prop} {Q : Exit → Act → World → Prop}
theorem op_load57 {p : Operand} {b g k : Nat} (hop : o.op = .load 57 p) (hp : a.eval p = .pointer (some ⟨b, 0, none⟩)) (hc : w.cell? ⟨b, 0, none⟩ = some (.slice (some ⟨g, 0, none⟩) k k)) (h : K (a.put o.dst (.slice (some ⟨g, 0, none⟩) k k)) w) : o.wp Yba.prog a w K Q := by
  unfold Oper.wp
  simp only [execOp, hop, hp]
  go_simp
  exact h
theorem op_load21 {p : Operand} {b k : Nat} {v : Int} (hop : o.op = .load 21 p) (hp : a.eval p = .pointer (some ⟨b, k, none⟩)) (hc : w.cell? ⟨b, k, none⟩ = some (.int .i32 v)) (h : K (a.put o.dst (.int .i32 v)) w) : o.wp Yba.prog a w K Q := by
  unfold Oper.wp
  simp only [execOp, hop, hp]
  go_simp
  exact h
theorem op_index {t x : Operand} {g n k : Nat} (hop : o.op = .indexAddr 57 t x) (ht : a.eval t = .slice (some ⟨g, 0, none⟩) n n) (hx : a.eval x = .int .i32 (k : Int)) (hk : (k : Int) < (n : Int)) (h : K (a.put o.dst (.pointer (some ⟨g, k, none⟩))) w) : o.wp Yba.prog a w K Q := by
  unfold Oper.wp
  simp only [execOp, hop, ht, hx]
  go_simp
  exact h
theorem op_store21 {p x : Operand} {b k : Nat} {u : Value} {v : Int} (hop : o.op = .store 21 p x) (hd : o.dst = none) (hp : a.eval p = .pointer (some ⟨b, k, none⟩)) (hx : a.eval x = .int .i32 v) (hc : w.cell? ⟨b, k, none⟩ = some u) (hf : w.frozen? ⟨b, k, none⟩ = false)
    (h : K a (w.setCell ⟨b, k, none⟩ (.int .i32 v))) : o.wp Yba.prog a w K Q := by
  unfold Oper.wp
  simp only [execOp, hop, hp, hx]
  go_simp
  exact h
end

def D51 (i : Nat) : Nat := if i ≤ 15 then 251 + i else 267
def V51 (K wv sw : Nat) (bv : Int) (c : Nat → Nat) : Nat → Value
  | 0 => .slice (some ⟨c 7, 0, none⟩) K K
  | 1 => .int .i32 (wv : Int)
  | 2 => .slice (some ⟨c 6, 0, none⟩) K K
  | 3 => .slice (some ⟨c 3, 0, none⟩) K K
  | 4 => .int .i32 (wv : Int)
  | 5 => .pointer (some ⟨c 3, wv, none⟩)
  | 6 => .int .i32 (sw : Int)
  | 7 => .slice (some ⟨c 6, 0, none⟩) K K
  | 8 => .slice (some ⟨c 3, 0, none⟩) K K
  | 9 => .int .i32 (wv : Int)
  | 10 => .pointer (some ⟨c 3, wv, none⟩)
  | 11 => .int .i32 (sw : Int)
  | 12 => .pointer (some ⟨c 6, sw, none⟩)
  | 13 => .int .i32 bv
  | 14 => .int .i32 (wv : Int)
  | 15 => .pointer (some ⟨c 7, wv, none⟩)
  | _ => .pointer (some ⟨c 6, sw, none⟩)

structure I51 (K wv sw : Nat) (bv : Int) (c : Nat → Nat) (X : World) (l : Nat → Bool) (s : Nat → Value) (W : World) : Prop where
  dv : ∀ i, i ≤ 17 → i ≠ 16 → l i = true → s (D51 i) = V51 K wv sw bv c i
  q1 : l 18 = true → l 16 = true
  q2 : l 16 = true → l 13 = true ∧ l 6 = true ∧ l 11 = true ∧ l 8 = true ∧ l 3 = true
  q3 : l 5 = true → l 3 = true
  q4 : l 6 = true → l 5 = true
  w0 : l 16 = false → W = X
  w1 : l 16 = true → l 18 = false → W = X.setCell ⟨c 7, wv, none⟩ (.int .i32 bv)
  w2 : l 18 = true → W = (X.setCell ⟨c 7, wv, none⟩ (.int .i32 bv)).setCell ⟨c 6, sw, none⟩ (.int .i32 (wv : Int))

theorem D51_inj {i j : Nat} (hi : i ≤ 17) (hi6 : i ≠ 16) (hj : j ≤ 17) (hj6 : j ≠ 16) (h : D51 i = D51 j) : i = j := by
  unfold D51 at h
  split at h <;> split at h <;> omega

theorem I51.put {K wv sw : Nat} {bv : Int} {c : Nat → Nat} {X : World} {l : Nat → Bool} {s : Nat → Value} {W : World} (h : I51 K wv sw bv c X l s W) (i : Nat) (hi : i ≤ 17) (hi6 : i ≠ 16) (h5 : i = 5 → l 3 = true) (h6 : i = 6 → l 5 = true) :
    I51 K wv sw bv c X (upd l i true) (upd s (D51 i) (V51 K wv sw bv c i)) W := by
  have up : ∀ j, l j = true → upd l i true j = true := fun j hj => by
    by_cases e : j = i
    · rw [e, upd_same]
    · rw [upd_ne e]; exact hj
  have e16 : upd l i true 16 = l 16 := upd_ne (by omega)
  have e18 : upd l i true 18 = l 18 := upd_ne (by omega)
  refine ⟨fun j hj hj6 c1 => ?_, ?_, ?_, ?_, ?_, ?_, ?_, ?_⟩
  · by_cases e : j = i
    · rw [e, upd_same]
    · rw [upd_ne (fun e2 => e (D51_inj hj hj6 hi hi6 e2))]
      rw [upd_ne e] at c1
      exact h.dv j hj hj6 c1
  · rw [e16, e18]; exact h.q1
  · rw [e16]; intro c1; obtain ⟨a, b, c, d, e⟩ := h.q2 c1; exact ⟨up _ a, up _ b, up _ c, up _ d, up _ e⟩
  · intro c1
    by_cases e : 5 = i
    · exact up _ (h5 e.symm)
    · rw [upd_ne e] at c1; exact up _ (h.q3 c1)
  · intro c1
    by_cases e : 6 = i
    · exact up _ (h6 e.symm)
    · rw [upd_ne e] at c1; exact up _ (h.q4 c1)
  · rw [e16]; exact h.w0
  · rw [e16, e18]; exact h.w1
  · rw [e18]; exact h.w2
end Go.Proofs.Ybulkexnju.W
