/-
  watchedVars: the walk down the tree of dominators: its code, its frame, its memory; the plain laws of its counts.
-/
import Derived.Test.YbulkexnjuVarsF
namespace Go.Proofs.Ybulkexnju.W
open Go.RowKit Go.Proofs.Ybulkexnju.G
set_option linter.unusedVariables false
set_option maxRecDepth 100000

/-! ### plain laws -/
theorem cb_flip {P : Nat → Bool} {k : Nat} (hP : P k = true) : ∀ {K : Nat}, k < K → cb (upd P k false) K + 1 = cb P K := by
  intro K
  induction K with
  | zero => intro h; omega
  | succ K ih =>
    intro h
    by_cases c : k = K
    · subst c
      rw [cb_yes hP, cb_no (upd_same P k false), cb_congr (fun j hj => upd_other P _ (show j ≠ k by omega))]
    · have h1 := ih (by omega)
      have h2 : upd P k false K = P K := upd_other P _ (fun e => c e.symm)
      cases hK : P K with
      | true => rw [cb_yes (h2.trans hK), cb_yes hK]; omega
      | false => rw [cb_no (h2.trans hK), cb_no hK]; omega

theorem opens_len : ∀ (T : List Int), (opens T).length ≤ T.length := by
  intro T
  induction T with
  | nil => exact Nat.le_refl _
  | cons e t ih =>
    simp only [opens]
    split
    · simp; omega
    · simp; omega

theorem sumO_le {st ord : Nat → Nat} {sg : Nat → Bool} {xv : Nat → Nat} {x B : Nat} : ∀ {O : List Nat}, (∀ m, m ∈ O → st (ord m + 1) ≤ B) → sumO st ord sg xv x O ≤ O.length * B := by
  intro O
  induction O with
  | nil => intro _; exact Nat.zero_le _
  | cons a O ih =>
    intro h
    have h1 := ih (fun m hm => h m (List.mem_cons_of_mem _ hm))
    have h2 := cb_le (sx sg xv x) (st (ord a + 1))
    have h3 := h a List.mem_cons_self
    simp only [sumO, List.length_cons, Nat.succ_mul]
    omega

/-- one instruction more is counted -/
theorem cb_sx {sg : Nat → Bool} {xv : Nat → Nat} {i x : Nat} : cb (sx sg xv x) (i + 1) = cb (sx sg xv x) i + (if sg i = true ∧ xv i = x then 1 else 0) := by
  by_cases c : sg i = true ∧ xv i = x
  · rw [cb_yes (sx_iff.2 c), if_pos c]
  · rw [cb_no (by simpa using (fun h => c (sx_iff.1 h)) : sx sg xv x i = false), if_neg c]; rfl

/-- the kids of k, the last on top -/
def kidsOf (at_ : Nat → Int) (lo hi : Nat) : List Int := (List.range (hi - lo)).map (fun d => at_ (lo + d))

theorem kids_mem {at_ : Nat → Int} {lo hi : Nat} {e : Int} : e ∈ kidsOf at_ lo hi ↔ ∃ i, lo ≤ i ∧ i < hi ∧ at_ i = e := by
  unfold kidsOf
  rw [List.mem_map]
  constructor
  · rintro ⟨d, hd, rfl⟩
    have := List.mem_range.1 hd
    exact ⟨lo + d, by omega, by omega, rfl⟩
  · rintro ⟨i, h1, h2, rfl⟩
    exact ⟨i - lo, List.mem_range.2 (by omega), by rw [show lo + (i - lo) = i by omega]⟩

theorem kids_len {at_ : Nat → Int} {lo hi : Nat} : (kidsOf at_ lo hi).length = hi - lo := by simp [kidsOf]

theorem kids_nodup {at_ : Nat → Int} {lo hi : Nat} (h : ∀ i j, lo ≤ i → i < hi → lo ≤ j → j < hi → at_ i = at_ j → i = j) : (kidsOf at_ lo hi).Nodup := by
  unfold kidsOf
  refine List.pairwise_map.2 ((List.nodup_range (n := hi - lo)).imp_of_mem ?_)
  intro a b ha hb hne e
  have h1 := List.mem_range.1 ha
  have h2 := List.mem_range.1 hb
  have := h (lo + a) (lo + b) (by omega) (by omega) (by omega) (by omega) e
  omega

section
variable {V : VE} {ld : Nat → Bool} {st : Nat → Nat} {sc : Nat → Int} {K : Nat} {ord I : Nat → Nat} {fst at_ : Nat → Int} {T : Nat}

theorem keyI_iff {I : Nat → Nat} {j k : Nat} : keyI I j = (k : Int) ↔ 0 < j ∧ I j = k := by
  unfold keyI
  by_cases c : j = 0
  · rw [if_pos c]; omega
  · rw [if_neg c]; omega

theorem TR.visit (h : TR V ld st sc K ord I fst at_ T) {vis : Nat → Bool} {k : Nat} {t : List Int} (hT : TInv K (EN sc ord K) I vis ((k : Int) :: t)) :
    TInv K (EN sc ord K) I (upd vis k true) ((kidsOf at_ (ps (keyI I) K k) (ps (keyI I) K (k + 1))).reverse ++ (-(k : Int) - 1) :: t) := by
  obtain ⟨p, hp⟩ := h.dom.doms
  refine hT.visit hp ?_ ?_ ?_
  · intro e he
    obtain ⟨i, h1, h2, rfl⟩ := kids_mem.1 (List.mem_reverse.1 he)
    obtain ⟨j, j1, j2, j3, j4⟩ := h.grp.mem h1 h2
    obtain ⟨j5, j6⟩ := keyI_iff.1 j2
    exact ⟨j, j3, j5, j1, j6⟩
  · intro c h1 h2 h3
    have hk := keyI_iff.2 ⟨h1, h3⟩
    have := h.grp.at_ c k h2 hk
    have hlt : ck (keyI I) k c < ck (keyI I) k K := cb_lt (P := fun j => decide (keyI I j = k)) (by simpa using hk) h2
    refine List.mem_reverse.2 (kids_mem.2 ⟨_, Nat.le_add_right _ _, ?_, this⟩)
    show ps (keyI I) K k + ck (keyI I) k c < ps (keyI I) K k + ck (keyI I) k K
    omega
  · refine List.pairwise_reverse.2 ((kids_nodup ?_).imp (fun h => Ne.symm h))
    intro i j h1 h2 h3 h4 e
    obtain ⟨a, a1, a2, a3, a4⟩ := h.grp.mem h1 h2
    obtain ⟨b, b1, b2, b3, b4⟩ := h.grp.mem h3 h4
    have : a = b := by rw [a3, b3] at e; omega
    rw [a4, b4, this]

theorem TR.kidsLe (h : TR V ld st sc K ord I fst at_ T) {k : Nat} (hk : k < K) : ps (keyI I) K k ≤ ps (keyI I) K (k + 1) ∧ ps (keyI I) K (k + 1) ≤ T ∧ T ≤ K ∧ fst k = ps (keyI I) K k ∧ fst (k + 1) = ps (keyI I) K (k + 1) :=
  ⟨ps_mono _ _ (by omega), by rw [h.tps]; exact ps_mono _ _ (by omega), by rw [h.tps]; exact ps_le _ _ _, h.grp.fst k (by omega), h.grp.fst (k + 1) (by omega)⟩
end

/-! ### the code, the frame, the memory -/
def thenOf : Code → Code
  | .cond _ a _ => a
  | c => c
/-- the walk's loop's body; one entry's turn; its parts -/
noncomputable def C7 : Code := unloop (unblock (leftOf (tail11 25)))
noncomputable def B7 : Code := unblock (sndOf C7)
noncomputable def U7 : Code := thenOf (sndOf (leftOf (right 2 B7)))
noncomputable def L9 : Code := unloop (unblock (sndOf (leftOf (right 3 B7))))
noncomputable def V9 : Code := unblock (leftOf (sndOf L9))

def fw (x : Nat → Value) (H : Nat) (v23 v31 v33 v34 v35 v37 v38 v39 v40 v41 : Value) : List Value :=
  [x 0, x 1, x 2, x 3, .pointer (some ⟨H, 0, none⟩), x 5, x 6, x 7, x 8, .pointer (some ⟨H + 4, 0, none⟩), .func (Fn.func 27) #[] #[.pointer (some ⟨H + 1, 0, none⟩)], .func (Fn.func 28) #[] #[.pointer (some ⟨H + 1, 0, none⟩)], x 12, x 13, x 14, x 15, x 16, x 17, x 18, x 19, x 20, x 21, x 22, v23, x 24, x 25, x 26, x 27, x 28, x 29, x 30, v31, x 32, v33, v34, v35, x 36, v37, v38, v39, v40, v41, x 42, x 43, x 44, x 45, x 46, x 47, x 48, x 49, x 50, x 51, x 52, x 53, x 54, x 55, x 56, x 57, x 58, x 59, x 60, x 61, x 62, x 63, x 64, x 65, x 66, x 67, x 68, x 69, x 70, x 71, x 72, x 73, x 74, x 75, x 76, x 77, x 78, x 79, x 80, x 81, x 82, x 83, x 84, x 85, x 86, x 87, x 88, x 89, x 90, x 91, x 92, x 93, x 94, x 95, x 96, x 97, x 98, x 99, x 100, x 101, x 102, x 103, x 104, x 105, x 106, x 107, x 108, x 109, x 110, x 111, x 112, x 113, x 114, x 115, x 116, x 117, x 118, x 119, x 120, x 121, x 122, x 123, x 124, x 125, x 126, x 127, x 128, x 129, x 130, x 131, x 132, x 133, x 134, x 135, x 136, x 137, x 138, x 139, x 140, x 141, x 142, x 143, x 144, x 145, x 146, x 147, x 148, x 149, x 150, x 151, x 152, x 153, x 154, x 155, x 156, x 157, x 158, x 159, x 160, x 161, x 162, x 163, x 164, x 165, x 166, x 167, x 168, x 169, x 170, x 171, x 172, x 173, x 174, x 175, x 176, x 177, x 178, x 179, x 180, x 181, x 182, x 183, x 184, x 185, x 186, x 187, x 188, x 189, x 190, x 191, x 192, x 193, x 194, x 195, x 196, x 197, x 198, x 199, x 200, x 201, x 202, x 203, x 204, x 205, x 206, x 207, x 208, x 209, x 210, x 211, x 212, x 213, x 214, x 215, x 216, x 217, x 218, x 219, x 220, x 221, x 222, x 223, x 224, x 225, x 226, x 227, x 228, x 229, x 230, x 231, x 232, x 233, x 234, x 235, x 236, x 237, x 238, x 239, x 240, x 241, x 242, x 243, x 244, x 245, x 246, x 247, x 248, x 249, x 250, x 251, x 252, x 253, x 254, x 255, x 256, x 257, x 258, x 259, x 260, x 261, x 262, x 263, x 264, x 265, x 266, x 267, x 268, x 269, x 270, x 271, x 272, x 273, x 274, x 275, x 276, x 277, x 278, x 279, x 280, x 281, x 282, x 283, x 284, x 285, x 286, x 287, x 288, x 289, x 290, x 291, x 292, x 293, x 294, x 295, x 296, x 297, x 298, x 299, x 300, x 301, x 302, x 303, x 304, x 305, x 306, x 307, x 308, x 309, x 310, x 311, x 312, x 313, x 314, x 315, x 316, x 317, x 318, x 319, x 320, x 321, x 322, x 323, x 324, x 325, x 326, x 327, x 328, x 329, x 330, x 331, x 332, x 333, x 334, x 335, x 336, x 337, x 338, x 339, x 340, x 341, x 342, x 343, x 344, x 345, x 346, x 347, x 348, x 349, x 350, x 351, x 352, x 353, x 354, x 355, x 356, x 357, x 358, x 359]

/-- all that stands fixed on the walk -/
structure WC where
  V : VE
  w : World
  St : Nat
  go : Nat
  F : Nat
  Se : Nat
  Td : Nat
  NB : Nat
  K : Nat
  T : Nat
  ld : Nat → Bool
  st : Nat → Nat
  sc : Nat → Int
  ord : Nat → Nat
  I : Nat → Nat
  fst : Nat → Int
  at_ : Nat → Int

structure WC.Ok (c : WC) : Prop where
  inn : c.V.In c.w
  nb : c.NB = cb c.ld c.V.n
  tr : TR c.V c.ld c.st c.sc c.K c.ord c.I c.fst c.at_ c.T
  td : c.Se < c.Td

/-- what is found at block number k: slot x is read there, and not set -/
def WC.Fd (c : WC) (k x : Nat) : Prop := ∃ i, c.st (c.ord k) ≤ i ∧ i < c.st (c.ord k + 1) ∧ c.V.rd i = true ∧ c.V.X i = x ∧ Unset (EN c.sc c.ord c.K) c.st c.ord c.V.sg c.V.X c.V.np k i
/-- what has been found -/
def WC.Fnd (c : WC) (vis : Nat → Bool) (x : Nat) : Prop := ∃ k, k < c.K ∧ vis k = true ∧ c.Fd k x
/-- the count of slot x where the blocks O are open -/
def WC.cnt (c : WC) (O : List Nat) (x : Nat) : Nat := (if x < c.V.np then 1 else 0) + sumO c.st c.ord c.V.sg c.V.X x O

/-- watched: nil, or a row that marks the slots of P -/
def WT (c : WC) (P : Nat → Prop) (v : Value) (W : World) : Prop :=
  (v = .slice none 0 0 ∧ ∀ x, ¬ P x) ∨ ∃ (b : Nat) (f : Nat → Bool), v = .slice (some ⟨b, 0, none⟩) c.V.ns c.V.ns ∧ W.rowIs b 4 c.V.ns (fun i => .bool (f i)) ∧ b ≠ c.Se ∧ b ≠ c.Td ∧ c.Se < b ∧ (∀ x, x < c.V.ns → (f x = true ↔ P x)) ∧ ∃ x, x < c.V.ns ∧ P x

structure KW (c : WC) (cn : Nat → Nat) (TL : List Value) (len : Nat) (P : Nat → Prop) (v : Value) (W : World) : Prop where
  fx : FX c.V c.w c.NB c.St c.go c.F c.Se c.st c.K c.ord c.fst c.at_ c.T W
  rc : W.rowIs c.Se 21 c.V.ns (fun i => .int .i32 (cn i : Int))
  rt : W.ownsRow (c.w.heap.size + 5) 21 1 (.slice (some ⟨c.Td, 0, none⟩) len (2 * c.K)) len TL
  wt : WT c P v W

section
variable {c : WC} {cn cn' : Nat → Nat} {TL : List Value} {len : Nat} {P P' : Nat → Prop} {v : Value} {W W' : World}

theorem WT.later (h : WT c P v W) (hb : Below W.heap.size W W') : WT c P v W' := by
  rcases h with h | ⟨b, f, h1, h2, h3⟩
  · exact .inl h
  · exact .inr ⟨b, f, h1, h2.of_block (hb.block _ h2.lt), h3⟩

theorem KW.later (h : KW c cn TL len P v W) (hb : Below W.heap.size W W') : KW c cn TL len P v W' :=
  ⟨h.fx.later (hb.mono (Nat.le_of_lt h.rc.lt)), h.rc.of_block (hb.block _ h.rc.lt), ownsRow_block h.rt (hb.block _ (h.rt.lt c.Td rfl).2), h.wt.later hb⟩

theorem KW.setC (h : KW c cn TL len P v W) (hc : c.Ok) (z n : Nat) : KW c (upd cn z n) TL len P v (W.setCell ⟨c.Se, z, none⟩ (.int .i32 (n : Int))) := by
  refine ⟨h.fx.later (one_set _ _ _ _), (h.rc.set z _).congr (fun i _ => ?_), h.rt.kept (grow_set _ _ _ _) (ne_block (by have := hc.td; omega)), ?_⟩
  · unfold upd; by_cases e : i = z <;> simp [e]
  · rcases h.wt with h1 | ⟨b, f, h1, h2, h3, h4⟩
    · exact .inl h1
    · exact .inr ⟨b, f, h1, h2.setOther h3 _, h3, h4⟩

theorem KW.congr (h : KW c cn TL len P v W) (h1 : ∀ x, x < c.V.ns → cn x = cn' x) (h2 : ∀ x, P x ↔ P' x) : KW c cn' TL len P' v W := by
  refine ⟨h.fx, h.rc.congr (fun i hi => by rw [h1 i hi]), h.rt, ?_⟩
  rcases h.wt with ⟨e, n⟩ | ⟨b, f, e1, e2, e3, e4, e5, e6, x, e7, e8⟩
  · exact .inl ⟨e, fun x hx => n x ((h2 x).2 hx)⟩
  · exact .inr ⟨b, f, e1, e2, e3, e4, e5, fun x hx => (e6 x hx).trans (h2 x), x, e7, (h2 x).1 e8⟩

theorem KW.todo (h : KW c cn TL len P v W) (hc : c.Ok) (hg : W.grownBy W' (some c.Td)) {len' : Nat} {TL' : List Value} (ho : W'.ownsRow (c.w.heap.size + 5) 21 1 (.slice (some ⟨c.Td, 0, none⟩) len' (2 * c.K)) len' TL') : KW c cn TL' len' P v W' := by
  have htd := hc.td
  refine ⟨h.fx.later ((Below.refl _ _).grown hg (Nat.le_of_lt h.rc.lt) (fun k e => by injection e with e; omega)), h.rc.of_block (hg.block _ h.rc.lt (fun e => by injection e with e; omega)), ho, ?_⟩
  rcases h.wt with h1 | ⟨b, f, h1, h2, h3, h4, h5⟩
  · exact .inl h1
  · exact .inr ⟨b, f, h1, h2.of_block (hg.block _ h2.lt (fun e => by injection e with e; exact h4 e)), h3, h4, h5⟩

theorem KW.retodo (h : KW c cn TL len P v W) {len' : Nat} {TL' : List Value} (ho : W.ownsRow (c.w.heap.size + 5) 21 1 (.slice (some ⟨c.Td, 0, none⟩) len' (2 * c.K)) len' TL') : KW c cn TL' len' P v W :=
  ⟨h.fx, h.rc, ho, h.wt⟩
end

/-- the stack, as values, its bottom first -/
def todoV (T : List Int) : List Value := T.reverse.map (fun e => .int .i32 e)

theorem todoV_cons (e : Int) (t : List Int) : todoV (e :: t) = todoV t ++ [.int .i32 e] := by simp [todoV]
theorem todoV_len (T : List Int) : (todoV T).length = T.length := by simp [todoV]

/-- the frame on the walk -/
def frW (c : WC) (x : Nat → Value) (v37 : Value) (len : Nat) (v39 v40 v41 : Value) : List Value :=
  fw x c.w.heap.size (.slice (some ⟨c.St, 0, none⟩) (c.NB + 1) (c.NB + 1)) (.slice (some ⟨c.go, 0, none⟩) c.K c.NB) (.slice (some ⟨c.F, 0, none⟩) (c.K + 1) (c.K + 2)) (.slice (some ⟨c.F + 1, 0, none⟩) c.T c.T) (.slice (some ⟨c.Se, 0, none⟩) c.V.ns c.V.ns) v37 (.slice (some ⟨c.Td, 0, none⟩) len (2 * c.K)) v39 v40 v41

/-- at the head of the walk's loop; m: how many turns are still to come -/
def RelW (c : WC) (m : Nat) (a : Act) (W : World) : Prop :=
  ∃ (x : Nat → Value) (T : List Int) (vis : Nat → Bool) (v37 : Value), a = ⟨(frW c x v37 T.length (x 39) (x 40) (x 41)).toArray, []⟩ ∧ m = 2 * cb (fun k => !vis k) c.K + (opens T).length ∧
    TInv c.K (EN c.sc c.ord c.K) c.I vis T ∧ KW c (c.cnt (opens T)) (todoV T) T.length (c.Fnd vis) v37 W

theorem RelW.mk {c : WC} {m : Nat} {l : List Value} {W : World} {T : List Int} {vis : Nat → Bool} {v37 : Value} {len : Nat} (hf : l = frW c (nth l) v37 len (nth l 39) (nth l 40) (nth l 41)) (hl : len = T.length) (h1 : m = 2 * cb (fun k => !vis k) c.K + (opens T).length)
    (h2 : TInv c.K (EN c.sc c.ord c.K) c.I vis T) (h3 : KW c (c.cnt (opens T)) (todoV T) T.length (c.Fnd vis) v37 W) : RelW c m ⟨l.toArray, []⟩ W :=
  ⟨nth l, T, vis, v37, by rw [← hl, ← hf], h1, h2, h3⟩

/-- an entry e has been taken off; t is what is left -/
def RelE (c : WC) (e : Int) (t : List Int) (vis : Nat → Bool) (a : Act) (W : World) : Prop :=
  ∃ (x : Nat → Value) (v37 : Value), a = ⟨(frW c x v37 t.length (.int .i32 e) (x 40) (x 41)).toArray, []⟩ ∧
    TInv c.K (EN c.sc c.ord c.K) c.I vis (e :: t) ∧ KW c (c.cnt (opens (e :: t))) (todoV t) t.length (c.Fnd vis) v37 W

theorem RelE.mk {c : WC} {e : Int} {l : List Value} {W : World} {t : List Int} {vis : Nat → Bool} {v37 : Value} (hf : l = frW c (nth l) v37 t.length (.int .i32 e) (nth l 40) (nth l 41))
    (h2 : TInv c.K (EN c.sc c.ord c.K) c.I vis (e :: t)) (h3 : KW c (c.cnt (opens (e :: t))) (todoV t) t.length (c.Fnd vis) v37 W) : RelE c e t vis ⟨l.toArray, []⟩ W :=
  ⟨nth l, v37, by rw [← hf], h2, h3⟩
end Go.Proofs.Ybulkexnju.W
