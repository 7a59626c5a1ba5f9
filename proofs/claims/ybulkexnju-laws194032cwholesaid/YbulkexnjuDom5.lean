/-
  dominators: the rows are filled at their start.
-/
import Derived.Test.YbulkexnjuDom4
namespace Go.Proofs.Ybulkexnju.W
open Go.RowKit Go.Proofs.Ybulkexnju.G
set_option linter.unusedVariables false
set_option maxRecDepth 100000

def fr8 (x : Nat → Value) (v2 v3 v4 v6 v10 v14 v15 v16 v17 v18 v19 v20 : Value) : List Value :=
  [x 0, x 1, v2, v3, v4, x 5, v6, x 7, x 8, x 9, v10, x 11, x 12, x 13, v14, v15, v16, v17, v18, v19, v20, x 21, x 22, x 23, x 24, x 25, x 26, x 27, x 28, x 29, x 30, x 31, x 32, x 33, x 34, x 35, x 36, x 37, x 38, x 39, x 40, x 41, x 42, x 43, x 44, x 45, x 46, x 47, x 48, x 49, x 50, x 51, x 52, x 53, x 54, x 55, x 56, x 57, x 58, x 59, x 60, x 61, x 62, x 63, x 64, x 65, x 66, x 67, x 68, x 69, x 70, x 71, x 72, x 73, x 74, x 75, x 76, x 77, x 78, x 79, x 80, x 81, x 82, x 83, x 84, x 85, x 86, x 87, x 88, x 89, x 90, x 91, x 92, x 93, x 94, x 95, x 96, x 97, x 98, x 99, x 100, x 101, x 102, x 103, x 104, x 105, x 106, x 107, x 108, x 109, x 110, x 111, x 112, x 113, x 114, x 115, x 116, x 117, x 118, x 119, x 120, x 121, x 122, x 123, x 124, x 125, x 126, x 127, x 128, x 129, x 130, x 131, x 132, x 133, x 134, x 135, x 136, x 137, x 138, x 139, x 140, x 141, x 142, x 143, x 144, x 145, x 146, x 147, x 148, x 149, x 150, x 151, x 152, x 153, x 154, x 155, x 156, x 157, x 158, x 159, x 160, x 161, x 162, x 163, x 164, x 165, x 166, x 167, x 168, x 169, x 170, x 171, x 172, x 173, x 174, x 175, x 176, x 177, x 178, x 179, x 180, x 181, x 182, x 183, x 184, x 185, x 186, x 187, x 188, x 189, x 190, x 191, x 192, x 193, x 194, x 195, x 196, x 197, x 198, x 199, x 200, x 201, x 202, x 203, x 204, x 205, x 206, x 207, x 208, x 209, x 210, x 211, x 212, x 213, x 214, x 215, x 216, x 217, x 218, x 219, x 220, x 221, x 222, x 223, x 224, x 225, x 226, x 227, x 228, x 229, x 230, x 231, x 232, x 233, x 234, x 235, x 236, x 237, x 238, x 239, x 240, x 241, x 242, x 243, x 244, x 245, x 246, x 247, x 248, x 249, x 250, x 251, x 252, x 253, x 254, x 255, x 256, x 257, x 258, x 259, x 260, x 261, x 262, x 263, x 264, x 265, x 266, x 267, x 268, x 269, x 270, x 271, x 272, x 273, x 274, x 275, x 276, x 277, x 278, x 279, x 280, x 281, x 282, x 283, x 284, x 285, x 286, x 287, x 288, x 289, x 290, x 291, x 292, x 293, x 294, x 295, x 296, x 297, x 298, x 299, x 300, x 301, x 302, x 303, x 304, x 305, x 306, x 307, x 308, x 309, x 310, x 311, x 312, x 313, x 314, x 315, x 316, x 317, x 318, x 319, x 320, x 321, x 322, x 323, x 324, x 325, x 326, x 327, x 328, x 329, x 330, x 331, x 332, x 333, x 334, x 335, x 336]

/-- blocks that part: the boxes of semi, label, link; the rows of semi, label, link, bucket, next, idom; the box of path -/
structure Bks (n L B : Nat) (c : Nat → Nat) : Prop where
  ge : ∀ i, i < n → L ≤ c i ∧ c i < B
  ne : ∀ i j, i < n → j < n → i ≠ j → c i ≠ c j

/-- the rows -/
structure Rws (K : Nat) (c : Nat → Nat) (sm label link bucket next idom : Nat → Int) (W : World) : Prop where
  x0 : W.rowIs (c 0) 57 1 (fun _ => .slice (some ⟨c 3, 0, none⟩) K K)
  x1 : W.rowIs (c 1) 57 1 (fun _ => .slice (some ⟨c 4, 0, none⟩) K K)
  x2 : W.rowIs (c 2) 57 1 (fun _ => .slice (some ⟨c 5, 0, none⟩) K K)
  r3 : W.rowIs (c 3) 21 K (fun i => .int .i32 (sm i))
  r4 : W.rowIs (c 4) 21 K (fun i => .int .i32 (label i))
  r5 : W.rowIs (c 5) 21 K (fun i => .int .i32 (link i))
  r6 : W.rowIs (c 6) 21 K (fun i => .int .i32 (bucket i))
  r7 : W.rowIs (c 7) 21 K (fun i => .int .i32 (next i))
  r8 : W.rowIs (c 8) 21 K (fun i => .int .i32 (idom i))

section
variable {K n L B : Nat} {c : Nat → Nat} {sm label link bucket next idom : Nat → Int} {W W' : World}

theorem upd_row {b K : Nat} {f : Nat → Int} {W : World} (h : W.rowIs b 21 K (fun i => .int .i32 (f i))) (u : Nat) (v : Int) : (W.setCell ⟨b, u, none⟩ (.int .i32 v)).rowIs b 21 K (fun i => .int .i32 (upd f u v i)) :=
  (h.set u _).congr (fun i _ => by unfold upd; by_cases c : i = u <;> simp [c])

theorem Rws.setSm (h : Rws K c sm label link bucket next idom W) (N : Bks n L B c) (hn : 9 ≤ n) (u : Nat) (v : Int) : Rws K c (upd sm u v) label link bucket next idom (W.setCell ⟨c 3, u, none⟩ (.int .i32 v)) :=
  ⟨h.x0.setOther (N.ne 0 3 (by omega) (by omega) (by omega)) _, h.x1.setOther (N.ne 1 3 (by omega) (by omega) (by omega)) _, h.x2.setOther (N.ne 2 3 (by omega) (by omega) (by omega)) _, upd_row h.r3 u v, h.r4.setOther (N.ne 4 3 (by omega) (by omega) (by omega)) _, h.r5.setOther (N.ne 5 3 (by omega) (by omega) (by omega)) _, h.r6.setOther (N.ne 6 3 (by omega) (by omega) (by omega)) _, h.r7.setOther (N.ne 7 3 (by omega) (by omega) (by omega)) _, h.r8.setOther (N.ne 8 3 (by omega) (by omega) (by omega)) _⟩
theorem Rws.setLb (h : Rws K c sm label link bucket next idom W) (N : Bks n L B c) (hn : 9 ≤ n) (u : Nat) (v : Int) : Rws K c sm (upd label u v) link bucket next idom (W.setCell ⟨c 4, u, none⟩ (.int .i32 v)) :=
  ⟨h.x0.setOther (N.ne 0 4 (by omega) (by omega) (by omega)) _, h.x1.setOther (N.ne 1 4 (by omega) (by omega) (by omega)) _, h.x2.setOther (N.ne 2 4 (by omega) (by omega) (by omega)) _, h.r3.setOther (N.ne 3 4 (by omega) (by omega) (by omega)) _, upd_row h.r4 u v, h.r5.setOther (N.ne 5 4 (by omega) (by omega) (by omega)) _, h.r6.setOther (N.ne 6 4 (by omega) (by omega) (by omega)) _, h.r7.setOther (N.ne 7 4 (by omega) (by omega) (by omega)) _, h.r8.setOther (N.ne 8 4 (by omega) (by omega) (by omega)) _⟩
theorem Rws.setLk (h : Rws K c sm label link bucket next idom W) (N : Bks n L B c) (hn : 9 ≤ n) (u : Nat) (v : Int) : Rws K c sm label (upd link u v) bucket next idom (W.setCell ⟨c 5, u, none⟩ (.int .i32 v)) :=
  ⟨h.x0.setOther (N.ne 0 5 (by omega) (by omega) (by omega)) _, h.x1.setOther (N.ne 1 5 (by omega) (by omega) (by omega)) _, h.x2.setOther (N.ne 2 5 (by omega) (by omega) (by omega)) _, h.r3.setOther (N.ne 3 5 (by omega) (by omega) (by omega)) _, h.r4.setOther (N.ne 4 5 (by omega) (by omega) (by omega)) _, upd_row h.r5 u v, h.r6.setOther (N.ne 6 5 (by omega) (by omega) (by omega)) _, h.r7.setOther (N.ne 7 5 (by omega) (by omega) (by omega)) _, h.r8.setOther (N.ne 8 5 (by omega) (by omega) (by omega)) _⟩
theorem Rws.setBk (h : Rws K c sm label link bucket next idom W) (N : Bks n L B c) (hn : 9 ≤ n) (u : Nat) (v : Int) : Rws K c sm label link (upd bucket u v) next idom (W.setCell ⟨c 6, u, none⟩ (.int .i32 v)) :=
  ⟨h.x0.setOther (N.ne 0 6 (by omega) (by omega) (by omega)) _, h.x1.setOther (N.ne 1 6 (by omega) (by omega) (by omega)) _, h.x2.setOther (N.ne 2 6 (by omega) (by omega) (by omega)) _, h.r3.setOther (N.ne 3 6 (by omega) (by omega) (by omega)) _, h.r4.setOther (N.ne 4 6 (by omega) (by omega) (by omega)) _, h.r5.setOther (N.ne 5 6 (by omega) (by omega) (by omega)) _, upd_row h.r6 u v, h.r7.setOther (N.ne 7 6 (by omega) (by omega) (by omega)) _, h.r8.setOther (N.ne 8 6 (by omega) (by omega) (by omega)) _⟩
theorem Rws.setNx (h : Rws K c sm label link bucket next idom W) (N : Bks n L B c) (hn : 9 ≤ n) (u : Nat) (v : Int) : Rws K c sm label link bucket (upd next u v) idom (W.setCell ⟨c 7, u, none⟩ (.int .i32 v)) :=
  ⟨h.x0.setOther (N.ne 0 7 (by omega) (by omega) (by omega)) _, h.x1.setOther (N.ne 1 7 (by omega) (by omega) (by omega)) _, h.x2.setOther (N.ne 2 7 (by omega) (by omega) (by omega)) _, h.r3.setOther (N.ne 3 7 (by omega) (by omega) (by omega)) _, h.r4.setOther (N.ne 4 7 (by omega) (by omega) (by omega)) _, h.r5.setOther (N.ne 5 7 (by omega) (by omega) (by omega)) _, h.r6.setOther (N.ne 6 7 (by omega) (by omega) (by omega)) _, upd_row h.r7 u v, h.r8.setOther (N.ne 8 7 (by omega) (by omega) (by omega)) _⟩
theorem Rws.setId (h : Rws K c sm label link bucket next idom W) (N : Bks n L B c) (hn : 9 ≤ n) (u : Nat) (v : Int) : Rws K c sm label link bucket next (upd idom u v) (W.setCell ⟨c 8, u, none⟩ (.int .i32 v)) :=
  ⟨h.x0.setOther (N.ne 0 8 (by omega) (by omega) (by omega)) _, h.x1.setOther (N.ne 1 8 (by omega) (by omega) (by omega)) _, h.x2.setOther (N.ne 2 8 (by omega) (by omega) (by omega)) _, h.r3.setOther (N.ne 3 8 (by omega) (by omega) (by omega)) _, h.r4.setOther (N.ne 4 8 (by omega) (by omega) (by omega)) _, h.r5.setOther (N.ne 5 8 (by omega) (by omega) (by omega)) _, h.r6.setOther (N.ne 6 8 (by omega) (by omega) (by omega)) _, h.r7.setOther (N.ne 7 8 (by omega) (by omega) (by omega)) _, upd_row h.r8 u v⟩
theorem Rws.drewN (h : Rws K c sm label link bucket next idom W) (m : Nat) : Rws K c sm label link bucket next idom (W.drewN m) := ⟨h.x0, h.x1, h.x2, h.r3, h.r4, h.r5, h.r6, h.r7, h.r8⟩
theorem Rws.drew (h : Rws K c sm label link bucket next idom W) : Rws K c sm label link bucket next idom W.drew := ⟨h.x0, h.x1, h.x2, h.r3, h.r4, h.r5, h.r6, h.r7, h.r8⟩
theorem Rws.alloc (h : Rws K c sm label link bucket next idom W) (o : Obj) : Rws K c sm label link bucket next idom (W.alloc o) :=
  ⟨h.x0.alloc _, h.x1.alloc _, h.x2.alloc _, h.r3.alloc _, h.r4.alloc _, h.r5.alloc _, h.r6.alloc _, h.r7.alloc _, h.r8.alloc _⟩
end

/-- region 39 is next -/
def Rel7 (NB g : Nat) (sc : Nat → Int) (w : World) (a : Act) (W : World) : Prop :=
  ∃ (x : Nat → Value) (bo bq S T K L : Nat) (c : Nat → Nat) (num : Nat → Int) (ord par tv tj : Nat → Nat) (fst at_ next idom : Nat → Int),
    a = ⟨(fr8 x (.slice (some ⟨bo, 0, none⟩) K NB) (.slice (some ⟨c 8, 0, none⟩) K K) (.slice (some ⟨w.heap.size, 0, none⟩) NB NB) (.slice (some ⟨bq, 0, none⟩) K NB) (.int .i64 (K : Int)) (.slice (some ⟨S, 0, none⟩) (K + 1) (K + 2)) (.slice (some ⟨S + 1, 0, none⟩) T T)
      (.pointer (some ⟨c 0, 0, none⟩)) (.pointer (some ⟨c 1, 0, none⟩)) (.pointer (some ⟨c 2, 0, none⟩)) (.slice (some ⟨c 6, 0, none⟩) K K) (.slice (some ⟨c 7, 0, none⟩) K K)).toArray, []⟩ ∧
    DG NB K sc num ord par tv tj fst at_ bo bq S T w L W ∧ Bks 9 L W.heap.size c ∧ Rws K c (fun i => (i : Int)) (fun i => (i : Int)) (fun _ => -1) (fun _ => -1) next idom W

theorem Rel7.mk {NB g : Nat} {sc : Nat → Int} {w : World} {l : List Value} {W : World} {bo bq S T K L : Nat} {c : Nat → Nat} {num : Nat → Int} {ord par tv tj : Nat → Nat} {fst at_ next idom : Nat → Int}
    (hf : l = fr8 (nth l) (.slice (some ⟨bo, 0, none⟩) K NB) (.slice (some ⟨c 8, 0, none⟩) K K) (.slice (some ⟨w.heap.size, 0, none⟩) NB NB) (.slice (some ⟨bq, 0, none⟩) K NB) (.int .i64 (K : Int)) (.slice (some ⟨S, 0, none⟩) (K + 1) (K + 2)) (.slice (some ⟨S + 1, 0, none⟩) T T)
      (.pointer (some ⟨c 0, 0, none⟩)) (.pointer (some ⟨c 1, 0, none⟩)) (.pointer (some ⟨c 2, 0, none⟩)) (.slice (some ⟨c 6, 0, none⟩) K K) (.slice (some ⟨c 7, 0, none⟩) K K))
    (h1 : DG NB K sc num ord par tv tj fst at_ bo bq S T w L W) (h2 : Bks 9 L W.heap.size c) (h3 : Rws K c (fun i => (i : Int)) (fun i => (i : Int)) (fun _ => -1) (fun _ => -1) next idom W) : Rel7 NB g sc w ⟨l.toArray, []⟩ W :=
  ⟨nth l, bo, bq, S, T, K, L, c, num, ord, par, tv, tj, fst, at_, next, idom, by rw [← hf], h1, h2, h3⟩

theorem upd_fill (j : Nat) (f : Nat → Int) (i : Nat) : upd (fun i => if i < j then f i else 0) j (f j) i = if i < j + 1 then f i else 0 := by
  by_cases q : i = j
  · rw [q, upd_same, if_pos (by omega)]
  · rw [upd_ne q]
    by_cases q2 : i < j
    · rw [if_pos q2, if_pos (by omega)]
    · rw [if_neg q2, if_neg (by omega)]

/-- the nine blocks by their numbers -/
def cOf (b : Nat → Nat) (bk nx bi : Nat) : Nat → Nat
  | 0 => b 6 | 1 => b 7 | 2 => b 8 | 3 => b 1 | 4 => b 3 | 5 => b 5 | 6 => bk | 7 => nx | _ => bi

set_option maxHeartbeats 4000000 in
theorem dom_fill {NB g : Nat} {sc : Nat → Int} {w : World} (hin : DomIn NB g sc w) (hnext : ∀ a W, Rel7 NB g sc w a W → (tail30 14).wp Yba.prog (bodyPost Yba.prog Yba.f30 (domR NB sc w)) a W) :
    ∀ a W, Rel6 NB g sc w a W → (tail30 12).wp Yba.prog (bodyPost Yba.prog Yba.f30 (domR NB sc w)) a W := by
  rintro a W ⟨x, bo, bq, S, T, K, L, L2, bk, nx, b, num, ord, par, tv, tj, fst, at_, rfl, hdg, six, hL2, hbk, hnx, hne, hLL, rbk, rnx⟩
  have hKN := hdg.inv.kN
  have hnb := hin.nb
  have HX : Aside (∀ a W, Rel7 NB g sc w a W → (tail30 14).wp Yba.prog (bodyPost Yba.prog Yba.f30 (domR NB sc w)) a W) := hnext
  obtain ⟨c, hc⟩ : ∃ c, c = cOf b bk nx W.heap.size := ⟨_, rfl⟩
  have N : Bks 9 L (W.heap.size + 1) c := by
    have l1 := rbk.lt
    have l2 := rnx.lt
    have g : ∀ i, (i = 1 ∨ i = 3 ∨ i = 5 ∨ i = 6 ∨ i = 7 ∨ i = 8) → L ≤ b i ∧ b i < L2 := fun i hi => ⟨(six.ge i hi).1, hL2 i hi⟩
    have g1 := g 1 (by omega)
    have g3 := g 3 (by omega)
    have g5 := g 5 (by omega)
    have g6 := g 6 (by omega)
    have g7 := g 7 (by omega)
    have g8 := g 8 (by omega)
    have n13 := six.ne 1 3 (by omega) (by omega) (by omega)
    have n15 := six.ne 1 5 (by omega) (by omega) (by omega)
    have n16 := six.ne 1 6 (by omega) (by omega) (by omega)
    have n17 := six.ne 1 7 (by omega) (by omega) (by omega)
    have n18 := six.ne 1 8 (by omega) (by omega) (by omega)
    have n35 := six.ne 3 5 (by omega) (by omega) (by omega)
    have n36 := six.ne 3 6 (by omega) (by omega) (by omega)
    have n37 := six.ne 3 7 (by omega) (by omega) (by omega)
    have n38 := six.ne 3 8 (by omega) (by omega) (by omega)
    have n56 := six.ne 5 6 (by omega) (by omega) (by omega)
    have n57 := six.ne 5 7 (by omega) (by omega) (by omega)
    have n58 := six.ne 5 8 (by omega) (by omega) (by omega)
    have n67 := six.ne 6 7 (by omega) (by omega) (by omega)
    have n68 := six.ne 6 8 (by omega) (by omega) (by omega)
    have n78 := six.ne 7 8 (by omega) (by omega) (by omega)
    have e0 : c 0 = b 6 := by rw [hc]; rfl
    have e1 : c 1 = b 7 := by rw [hc]; rfl
    have e2 : c 2 = b 8 := by rw [hc]; rfl
    have e3 : c 3 = b 1 := by rw [hc]; rfl
    have e4 : c 4 = b 3 := by rw [hc]; rfl
    have e5 : c 5 = b 5 := by rw [hc]; rfl
    have e6 : c 6 = bk := by rw [hc]; rfl
    have e7 : c 7 = nx := by rw [hc]; rfl
    have e8 : c 8 = W.heap.size := by rw [hc]; rfl
    refine ⟨fun i hi => ?_, fun i j hi hj hij => ?_⟩
    · rcases (show i = 0 ∨ i = 1 ∨ i = 2 ∨ i = 3 ∨ i = 4 ∨ i = 5 ∨ i = 6 ∨ i = 7 ∨ i = 8 by omega) with e | e | e | e | e | e | e | e | e <;> subst e <;> omega
    · rcases (show i = 0 ∨ i = 1 ∨ i = 2 ∨ i = 3 ∨ i = 4 ∨ i = 5 ∨ i = 6 ∨ i = 7 ∨ i = 8 by omega) with e | e | e | e | e | e | e | e | e <;> subst e <;>
      rcases (show j = 0 ∨ j = 1 ∨ j = 2 ∨ j = 3 ∨ j = 4 ∨ j = 5 ∨ j = 6 ∨ j = 7 ∨ j = 8 by omega) with e | e | e | e | e | e | e | e | e <;> subst e <;> omega
  have R0 : Rws K c (fun _ => 0) (fun _ => 0) (fun _ => 0) (fun _ => 0) (fun _ => 0) (fun _ => 0) (W.alloc (.cells (madeCells #[.int .i32 0] K) 21)) := by
    rw [hc]
    exact ⟨six.c6.alloc _, six.c7.alloc _, six.c8.alloc _, six.r1.alloc _, six.r3.alloc _, six.r5.alloc _, rbk.alloc _, rnx.alloc _, madeRow W K⟩
  have e0 : b 6 = c 0 := by rw [hc]; rfl
  have e1 : b 7 = c 1 := by rw [hc]; rfl
  have e2 : b 8 = c 2 := by rw [hc]; rfl
  have e6 : bk = c 6 := by rw [hc]; rfl
  have e7 : nx = c 7 := by rw [hc]; rfl
  have e8 : W.heap.size = c 8 := by rw [hc]; rfl
  unfold fr6
  rw [e0, e1, e2, e6, e7]
  conv => arg 2; whnf
  have hmk := make_lc .i64 .i64 K K (Nat.le_refl _) (by omega)
  have A : Aside (DG NB K sc num ord par tv tj fst at_ bo bq S T w L W ∧ Rws K c (fun _ => 0) (fun _ => 0) (fun _ => 0) (fun _ => 0) (fun _ => 0) (fun _ => 0) (W.alloc (.cells (madeCells #[.int .i32 0] K) 21)) ∧ Bks 9 L (W.heap.size + 1) c) := ⟨hdg, R0, N⟩
  have E8 : Aside (W.heap.size = c 8) := e8
  clear hdg six hin hnext e6 e7 e8 e0 e1 e2 R0 N hc hL2 hbk hnx hne hLL rbk rnx
  go_wp2
  clear hmk
  rename_i hK
  have hK' : ∀ a W, Rel7 NB g sc w a W → _ := fun a W h => hK a W (HX.out a W h)
  clear hK
  go_loopg [183] K (fun gk s183 wr => ∃ j, j ≤ K ∧ gk = K - j ∧ s183 = .int .i64 j ∧ Rws K c (fun i => if i < j then (i : Int) else 0) (fun i => if i < j then (i : Int) else 0) (fun i => if i < j then -1 else 0) (fun i => if i < j then -1 else 0) (fun _ => 0) (fun _ => 0) wr ∧ Below L W wr ∧ wr.heap.size = W.heap.size + 1)
  case atStart =>
    obtain ⟨hdg, R0, N⟩ := A.out
    exact ⟨0, by omega, by omega, rfl, R0, (Below.refl _ _).alloc hdg.b5 _, by simp⟩
  case round =>
    obtain ⟨j, hj, rfl, rfl, R, hb, hsz⟩ := hrel
    obtain ⟨hdg, R0, N⟩ := A.out
    by_cases hlt : j < K
    · have hji : (j : Int) < (K : Int) := by omega
      have x0 := R.x0.cell (i := 0) (by omega)
      have x1 := R.x1.cell (i := 0) (by omega)
      have x2 := R.x2.cell (i := 0) (by omega)
      have r3 := R.r3.cell hlt
      have r4 := R.r4.cell hlt
      have r5 := R.r5.cell hlt
      have r6 := R.r6.cell hlt
      have f3 := R.r3.frozen j
      have f4 := R.r4.frozen j
      have f5 := R.r5.frozen j
      have f6 := R.r6.frozen j
      have n13 := N.ne 1 3 (by omega) (by omega) (by omega)
      have n23 := N.ne 2 3 (by omega) (by omega) (by omega)
      have n24 := N.ne 2 4 (by omega) (by omega) (by omega)
      have n43 := N.ne 4 3 (by omega) (by omega) (by omega)
      have n53 := N.ne 5 3 (by omega) (by omega) (by omega)
      have n54 := N.ne 5 4 (by omega) (by omega) (by omega)
      have n63 := N.ne 6 3 (by omega) (by omega) (by omega)
      have n64 := N.ne 6 4 (by omega) (by omega) (by omega)
      have n65 := N.ne 6 5 (by omega) (by omega) (by omega)
      have m13 := n13.symm
      have m23 := n23.symm
      have m24 := n24.symm
      have m43 := n43.symm
      have m53 := n53.symm
      have m54 := n54.symm
      have m63 := n63.symm
      have m64 := n64.symm
      have m65 := n65.symm
      rw [if_neg (by omega)] at r3 r4 r5 r6
      have A2 : Aside (Rws K c (fun i => if i < j then (i : Int) else 0) (fun i => if i < j then (i : Int) else 0) (fun i => if i < j then -1 else 0) (fun i => if i < j then -1 else 0) (fun _ => 0) (fun _ => 0) wr ∧ Below L W wr ∧ wr.heap.size = W.heap.size + 1) := ⟨R, hb, hsz⟩
      clear R hb hsz hdg R0 N
      go_wp2
      go_region
      go_wp2
      go_roundg (K - (j + 1))
      case measure => omega
      case rel =>
        obtain ⟨R, hb, hsz⟩ := A2.out
        obtain ⟨hdg, R0, N⟩ := A.out
        have R1 := ((((R.setSm N (Nat.le_refl _) j j).setLb N (Nat.le_refl _) j j).setLk N (Nat.le_refl _) j (-1)).setBk N (Nat.le_refl _) j (-1)).drew
        have g3 := (N.ge 3 (by omega)).1
        have g4 := (N.ge 4 (by omega)).1
        have g5 := (N.ge 5 (by omega)).1
        have g6 := (N.ge 6 (by omega)).1
        have u1 := fun i => upd_fill j (fun i => (i : Int)) i
        have u2 := fun i => upd_fill j (fun _ => (-1 : Int)) i
        refine ⟨j + 1, by omega, rfl, by go_num, ⟨R1.x0, R1.x1, R1.x2, R1.r3.congr (fun i _ => by rw [u1]), R1.r4.congr (fun i _ => by rw [u1]), R1.r5.congr (fun i _ => by rw [u2]), R1.r6.congr (fun i _ => by rw [u2]), R1.r7, R1.r8⟩, ((((hb.setCell g3 _).setCell g4 _).setCell g5 _).setCell g6 _).drew, by simpa [World.setCell] using hsz⟩
    · obtain rfl : j = K := by omega
      have A2 : Aside (Rws j c (fun i => if i < j then (i : Int) else 0) (fun i => if i < j then (i : Int) else 0) (fun i => if i < j then -1 else 0) (fun i => if i < j then -1 else 0) (fun _ => 0) (fun _ => 0) wr ∧ Below L W wr ∧ wr.heap.size = W.heap.size + 1) := ⟨R, hb, hsz⟩
      clear R hb hsz hdg R0 N hlt
      go_wp2
      obtain ⟨R, hb, hsz⟩ := A2.out
      obtain ⟨hdg, R0, N⟩ := A.out
      have e8 := E8.out
      refine Rel7.mk (by rw [← e8]; rfl) (hdg.below hb) (by rw [hsz]; exact N) ⟨R.x0, R.x1, R.x2, R.r3.congr (fun i hi => by rw [if_pos hi]), R.r4.congr (fun i hi => by rw [if_pos hi]), R.r5.congr (fun i hi => by rw [if_pos hi]), R.r6.congr (fun i hi => by rw [if_pos hi]), R.r7, R.r8⟩
end Go.Proofs.Ybulkexnju.W
