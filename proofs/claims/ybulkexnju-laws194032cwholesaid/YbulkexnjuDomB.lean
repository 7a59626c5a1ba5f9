/-
  dominators: what is known behind 'grouped'; the makes and boxes of region 31, in whatever order they come.
-/
import Derived.Test.YbulkexnjuDom2
namespace Go.Proofs.Ybulkexnju.W
open Go.RowKit Go.Proofs.Ybulkexnju.G
set_option linter.unusedVariables false
set_option maxRecDepth 100000

/-- the number of the node that edge e leads to, or -1 -/
def toI (sc num : Nat → Int) (e : Nat) : Int := if 0 ≤ sc e ∧ 0 ≤ num (e / 2) then num (sc e).toNat else -1

section
variable {NB K : Nat} {sc num : Nat → Int} {ord par tv tj : Nat → Nat}

theorem toI_bd (h : DInv NB sc num ord par K 0 tv tj) {e : Nat} (he : e < 2 * NB) : -1 ≤ toI sc num e ∧ toI sc num e < K := by
  have hk := h.k1
  unfold toI
  split
  · rename_i c
    obtain ⟨k, k1, k2, k3⟩ := h.nO (e / 2) (by omega) c.2
    obtain ⟨m, m1, m2⟩ := h.closed k1 (j := e % 2) (by omega) (w := (sc e).toNat) (by rw [k3, show 2 * (e / 2) + e % 2 = e by omega]; omega)
    rw [m2]
    omega
  · omega

theorem toI_edge (h : DInv NB sc num ord par K 0 tv tj) {e w : Nat} (he : e < 2 * NB) (hw : toI sc num e = (w : Int)) (hsc : sc e < NB) : ∃ a : Nat, a < K ∧ num (e / 2) = a ∧ EN sc ord K a w := by
  unfold toI at hw
  split at hw
  · rename_i c
    obtain ⟨k, k1, k2, k3⟩ := h.nO (e / 2) (by omega) c.2
    obtain ⟨k', q1, q2, q3⟩ := h.nO (sc e).toNat (by omega) (by omega)
    obtain rfl : k' = w := by omega
    refine ⟨k, k1, k2, k1, q1, e % 2, by omega, ?_⟩
    rw [k3, show 2 * (e / 2) + e % 2 = e by omega, q3]
    omega
  · omega

theorem toI_all (h : DInv NB sc num ord par K 0 tv tj) {a w : Nat} (he : EN sc ord K a w) : ∃ e : Nat, e < 2 * NB ∧ toI sc num e = (w : Int) ∧ num (e / 2) = a := by
  obtain ⟨ha, hw, j, hj, e⟩ := he
  have h1 := h.oN a ha
  have h2 := h.oN w hw
  refine ⟨2 * ord a + j, by omega, ?_, ?_⟩
  · unfold toI
    rw [show (2 * ord a + j) / 2 = ord a by omega, if_pos (by omega), e]
    simpa using h2.2
  · rw [show (2 * ord a + j) / 2 = ord a by omega]; exact h1.2
end

/-- what lies below L -/
structure DG (NB K : Nat) (sc num : Nat → Int) (ord par tv tj : Nat → Nat) (fst at_ : Nat → Int) (bo bq S T : Nat) (w : World) (L : Nat) (W : World) : Prop where
  inv : DInv NB sc num ord par K 0 tv tj
  rn : W.rowIs w.heap.size 21 NB (fun i => .int .i32 (num i))
  ro : W.ownsRow (w.heap.size + 1) 21 1 (.slice (some ⟨bo, 0, none⟩) K NB) K (wayV ord K)
  rq : W.ownsRow (w.heap.size + 1) 21 1 (.slice (some ⟨bq, 0, none⟩) K NB) K (wayV par K)
  rs : W.rowIs S 21 (K + 2) (fun i => .int .i32 (fst i))
  rt : W.rowIs (S + 1) 21 T (fun i => .int .i32 (at_ i))
  tT : T = ps (toI sc num) (2 * NB) K
  grp : Grp K (2 * NB) (toI sc num) fst at_
  b1 : bo < L
  b2 : bq < L
  b3 : S + 1 < L
  b4 : w.heap.size < L
  b5 : L ≤ W.heap.size
  bel : Below w.heap.size w W

theorem DG.below {NB K : Nat} {sc num : Nat → Int} {ord par tv tj : Nat → Nat} {fst at_ : Nat → Int} {bo bq S T : Nat} {w : World} {L : Nat} {W W' : World} (h : DG NB K sc num ord par tv tj fst at_ bo bq S T w L W) (hb : Below L W W') : DG NB K sc num ord par tv tj fst at_ bo bq S T w L W' := by
  have h4 := h.b4
  have own : ∀ {b : Nat} {xs : List Value}, b < L → W.ownsRow (w.heap.size + 1) 21 1 (.slice (some ⟨b, 0, none⟩) K NB) K xs → W'.ownsRow (w.heap.size + 1) 21 1 (.slice (some ⟨b, 0, none⟩) K NB) K xs := by
    intro b xs hlt ho
    obtain ⟨h1, h2 | ⟨g, cap, cur, e, e1, e2, e3⟩⟩ := ho
    · exact ⟨h1, .inl h2⟩
    · injection e with e5 e6 e7
      injection e5 with e5
      injection e5 with e5
      subst e5; subst e7
      exact ⟨h1, .inr ⟨b, NB, cur, rfl, e1, (hb.block b hlt).trans e2, e3⟩⟩
  exact ⟨h.inv, h.rn.of_block (hb.block _ h.b4), own h.b1 h.ro, own h.b2 h.rq, h.rs.of_block (hb.block _ (by have := h.b3; omega)), h.rt.of_block (hb.block _ h.b3), h.tT, h.grp, h.b1, h.b2, h.b3, h.b4, Nat.le_trans h.b5 hb.size, h.bel.trans (hb.mono (by omega))⟩

/-- the six blocks of region 31 -/
structure Six (K L : Nat) (b : Nat → Nat) (W : World) : Prop where
  ge : ∀ i, (i = 1 ∨ i = 3 ∨ i = 5 ∨ i = 6 ∨ i = 7 ∨ i = 8) → L ≤ b i ∧ b i < W.heap.size
  ne : ∀ i j, (i = 1 ∨ i = 3 ∨ i = 5 ∨ i = 6 ∨ i = 7 ∨ i = 8) → (j = 1 ∨ j = 3 ∨ j = 5 ∨ j = 6 ∨ j = 7 ∨ j = 8) → i ≠ j → b i ≠ b j
  r1 : W.rowIs (b 1) 21 K (fun _ => .int .i32 0)
  r3 : W.rowIs (b 3) 21 K (fun _ => .int .i32 0)
  r5 : W.rowIs (b 5) 21 K (fun _ => .int .i32 0)
  c6 : W.rowIs (b 6) 57 1 (fun _ => .slice (some ⟨b 1, 0, none⟩) K K)
  c7 : W.rowIs (b 7) 57 1 (fun _ => .slice (some ⟨b 3, 0, none⟩) K K)
  c8 : W.rowIs (b 8) 57 1 (fun _ => .slice (some ⟨b 5, 0, none⟩) K K)

def fr31 (x : Nat → Value) (v2 v4 v6 v10 v14 v15 : Value) (s : Nat → Value) : List Value :=
  [x 0, x 1, v2, x 3, v4, x 5, v6, x 7, x 8, x 9, v10, x 11, x 12, x 13, v14, v15, s 16, s 17, s 18, x 19, x 20, x 21, x 22, x 23, x 24, x 25, x 26, x 27, x 28, x 29, x 30, x 31, x 32, x 33, x 34, x 35, x 36, x 37, x 38, x 39, x 40, x 41, x 42, x 43, x 44, x 45, x 46, x 47, x 48, x 49, x 50, x 51, x 52, x 53, x 54, x 55, x 56, x 57, x 58, x 59, x 60, x 61, x 62, x 63, x 64, x 65, x 66, x 67, x 68, x 69, x 70, x 71, x 72, x 73, x 74, x 75, x 76, x 77, x 78, x 79, x 80, x 81, x 82, x 83, x 84, x 85, x 86, x 87, x 88, x 89, x 90, x 91, x 92, x 93, x 94, x 95, x 96, x 97, x 98, x 99, x 100, x 101, x 102, x 103, x 104, x 105, x 106, x 107, x 108, x 109, x 110, x 111, x 112, x 113, x 114, x 115, x 116, x 117, x 118, x 119, x 120, x 121, x 122, x 123, x 124, x 125, x 126, x 127, x 128, x 129, x 130, x 131, x 132, x 133, x 134, x 135, x 136, x 137, x 138, x 139, x 140, x 141, x 142, x 143, x 144, x 145, x 146, x 147, x 148, x 149, x 150, x 151, x 152, x 153, x 154, x 155, x 156, x 157, x 158, x 159, x 160, x 161, x 162, x 163, x 164, x 165, x 166, x 167, x 168, x 169, s 170, s 171, s 172, s 173, s 174, s 175, x 176, x 177, x 178, x 179, x 180, x 181, x 182, x 183, x 184, x 185, x 186, x 187, x 188, x 189, x 190, x 191, x 192, x 193, x 194, x 195, x 196, x 197, x 198, x 199, x 200, x 201, x 202, x 203, x 204, x 205, x 206, x 207, x 208, x 209, x 210, x 211, x 212, x 213, x 214, x 215, x 216, x 217, x 218, x 219, x 220, x 221, x 222, x 223, x 224, x 225, x 226, x 227, x 228, x 229, x 230, x 231, x 232, x 233, x 234, x 235, x 236, x 237, x 238, x 239, x 240, x 241, x 242, x 243, x 244, x 245, x 246, x 247, x 248, x 249, x 250, x 251, x 252, x 253, x 254, x 255, x 256, x 257, x 258, x 259, x 260, x 261, x 262, x 263, x 264, x 265, x 266, x 267, x 268, x 269, x 270, x 271, x 272, x 273, x 274, x 275, x 276, x 277, x 278, x 279, x 280, x 281, x 282, x 283, x 284, x 285, x 286, x 287, x 288, x 289, x 290, x 291, x 292, x 293, x 294, x 295, x 296, x 297, x 298, x 299, x 300, x 301, x 302, x 303, x 304, x 305, x 306, x 307, x 308, x 309, x 310, x 311, x 312, x 313, x 314, x 315, x 316, x 317, x 318, x 319, x 320, x 321, x 322, x 323, x 324, x 325, x 326, x 327, x 328, x 329, x 330, x 331, x 332, x 333, x 334, x 335, x 336]

theorem fr31_put (x : Nat → Value) (v2 v4 v6 v10 v14 v15 : Value) (s : Nat → Value) (d : Nat) (v : Value) (hd : d = 16 ∨ d = 17 ∨ d = 18 ∨ d = 170 ∨ d = 171 ∨ d = 172 ∨ d = 173 ∨ d = 174 ∨ d = 175) :
    (Act.mk (fr31 x v2 v4 v6 v10 v14 v15 s).toArray []).put (some d) v = ⟨(fr31 x v2 v4 v6 v10 v14 v15 (upd s d v)).toArray, []⟩ := by
  rcases hd with e | e | e | e | e | e | e | e | e <;> subst e <;> rfl
theorem fr31_eval (x : Nat → Value) (v2 v4 v6 v10 v14 v15 : Value) (s : Nat → Value) (d : Nat) (hd : d = 16 ∨ d = 17 ∨ d = 18 ∨ d = 170 ∨ d = 171 ∨ d = 172 ∨ d = 173 ∨ d = 174 ∨ d = 175) :
    (Act.mk (fr31 x v2 v4 v6 v10 v14 v15 s).toArray []).eval (.tmp d) = s d := by
  rcases hd with e | e | e | e | e | e | e | e | e <;> subst e <;> rfl
theorem fr31_ten (x : Nat → Value) (v2 v4 v6 v10 v14 v15 : Value) (s : Nat → Value) : (Act.mk (fr31 x v2 v4 v6 v10 v14 v15 s).toArray []).eval (.tmp 10) = v10 := rfl

def leftOf : Code → Code
  | .seq a _ => a
  | c => c
noncomputable def reg31 : Code := leftOf (tail30 10)
def opsOf : Code → Array Oper
  | .region _ ops _ => ops
  | _ => #[]
noncomputable def ops31 : Array Oper := opsOf reg31
theorem reg31_eq : reg31 = .region 31 ops31 true := rfl
theorem ops31_size : ops31.size = 12 := rfl
end Go.Proofs.Ybulkexnju.W
