/-
  dominators: the main loop's memory, its frames, what is known at its cuts.
-/
import Derived.Test.YbulkexnjuDom5
namespace Go.Proofs.Ybulkexnju.W
open Go.RowKit Go.Proofs.Ybulkexnju.G
set_option linter.unusedVariables false
set_option maxRecDepth 100000

def fr9 (x : Nat → Value) (v2 v3 v4 v6 v10 v14 v15 v16 v17 v18 v19 v20 v22 v23 v24 : Value) : List Value :=
  [x 0, x 1, v2, v3, v4, x 5, v6, x 7, x 8, x 9, v10, x 11, x 12, x 13, v14, v15, v16, v17, v18, v19, v20, x 21, v22, v23, v24, x 25, x 26, x 27, x 28, x 29, x 30, x 31, x 32, x 33, x 34, x 35, x 36, x 37, x 38, x 39, x 40, x 41, x 42, x 43, x 44, x 45, x 46, x 47, x 48, x 49, x 50, x 51, x 52, x 53, x 54, x 55, x 56, x 57, x 58, x 59, x 60, x 61, x 62, x 63, x 64, x 65, x 66, x 67, x 68, x 69, x 70, x 71, x 72, x 73, x 74, x 75, x 76, x 77, x 78, x 79, x 80, x 81, x 82, x 83, x 84, x 85, x 86, x 87, x 88, x 89, x 90, x 91, x 92, x 93, x 94, x 95, x 96, x 97, x 98, x 99, x 100, x 101, x 102, x 103, x 104, x 105, x 106, x 107, x 108, x 109, x 110, x 111, x 112, x 113, x 114, x 115, x 116, x 117, x 118, x 119, x 120, x 121, x 122, x 123, x 124, x 125, x 126, x 127, x 128, x 129, x 130, x 131, x 132, x 133, x 134, x 135, x 136, x 137, x 138, x 139, x 140, x 141, x 142, x 143, x 144, x 145, x 146, x 147, x 148, x 149, x 150, x 151, x 152, x 153, x 154, x 155, x 156, x 157, x 158, x 159, x 160, x 161, x 162, x 163, x 164, x 165, x 166, x 167, x 168, x 169, x 170, x 171, x 172, x 173, x 174, x 175, x 176, x 177, x 178, x 179, x 180, x 181, x 182, x 183, x 184, x 185, x 186, x 187, x 188, x 189, x 190, x 191, x 192, x 193, x 194, x 195, x 196, x 197, x 198, x 199, x 200, x 201, x 202, x 203, x 204, x 205, x 206, x 207, x 208, x 209, x 210, x 211, x 212, x 213, x 214, x 215, x 216, x 217, x 218, x 219, x 220, x 221, x 222, x 223, x 224, x 225, x 226, x 227, x 228, x 229, x 230, x 231, x 232, x 233, x 234, x 235, x 236, x 237, x 238, x 239, x 240, x 241, x 242, x 243, x 244, x 245, x 246, x 247, x 248, x 249, x 250, x 251, x 252, x 253, x 254, x 255, x 256, x 257, x 258, x 259, x 260, x 261, x 262, x 263, x 264, x 265, x 266, x 267, x 268, x 269, x 270, x 271, x 272, x 273, x 274, x 275, x 276, x 277, x 278, x 279, x 280, x 281, x 282, x 283, x 284, x 285, x 286, x 287, x 288, x 289, x 290, x 291, x 292, x 293, x 294, x 295, x 296, x 297, x 298, x 299, x 300, x 301, x 302, x 303, x 304, x 305, x 306, x 307, x 308, x 309, x 310, x 311, x 312, x 313, x 314, x 315, x 316, x 317, x 318, x 319, x 320, x 321, x 322, x 323, x 324, x 325, x 326, x 327, x 328, x 329, x 330, x 331, x 332, x 333, x 334, x 335, x 336]

def sndOf : Code → Code
  | .seq _ b => b
  | c => c
def unblock : Code → Code
  | .block _ c => c
  | c => c
def unloop : Code → Code
  | .loop c => c
  | c => c
/-- the body of the main loop -/
noncomputable def C9 : Code := unblock (leftOf (sndOf (unloop (unblock (sndOf (leftOf (tail30 16)))))))

/-- what the main loop holds in memory -/
structure LW (K L B : Nat) (c : Nat → Nat) (W0 : World) (sm label link bucket next idom : Nat → Int) (W : World) : Prop where
  rws : Rws K c sm label link bucket next idom W
  fp : W.frozen? ⟨c 9, 0, none⟩ = false
  path : ∃ pa pl pc xs, W.cell? ⟨c 9, 0, none⟩ = some (.slice pa pl pc) ∧ W.ownsRow B 21 1 (.slice pa pl pc) pl xs
  big : B ≤ W.heap.size
  bel : Below L W0 W

section
variable {K L B : Nat} {c : Nat → Nat} {W0 : World} {sm label link bucket next idom : Nat → Int} {W W' : World}

theorem Bks.evb (N : Bks 10 L B c) : EvB B (c 2) (c 9) (c 0) (c 1) (c 5) (c 3) (c 4) :=
  ⟨(N.ge 2 (by omega)).2, (N.ge 9 (by omega)).2, (N.ge 0 (by omega)).2, (N.ge 1 (by omega)).2, (N.ge 5 (by omega)).2, (N.ge 3 (by omega)).2, (N.ge 4 (by omega)).2,
    N.ne 9 2 (by omega) (by omega) (by omega), N.ne 9 0 (by omega) (by omega) (by omega), N.ne 9 1 (by omega) (by omega) (by omega), N.ne 9 5 (by omega) (by omega) (by omega), N.ne 9 3 (by omega) (by omega) (by omega), N.ne 9 4 (by omega) (by omega) (by omega),
    N.ne 5 2 (by omega) (by omega) (by omega), N.ne 5 0 (by omega) (by omega) (by omega), N.ne 5 1 (by omega) (by omega) (by omega), N.ne 5 3 (by omega) (by omega) (by omega), N.ne 5 4 (by omega) (by omega) (by omega),
    N.ne 4 2 (by omega) (by omega) (by omega), N.ne 4 0 (by omega) (by omega) (by omega), N.ne 4 1 (by omega) (by omega) (by omega), N.ne 4 3 (by omega) (by omega) (by omega)⟩

theorem LW.ev (h : LW K L B c W0 sm label link bucket next idom W) : Ev K B (c 2) (c 9) (c 0) (c 1) (c 5) (c 3) (c 4) sm label link W :=
  ⟨h.rws.x2.cell (by omega), h.rws.x0.cell (by omega), h.rws.x1.cell (by omega), h.rws.r5, h.rws.r3, h.rws.r4, h.fp, h.big⟩

theorem LW.after (h : LW K L B c W0 sm label link bucket next idom W) (N : Bks 10 L B c) {label' link' : Nat → Int} (he : Ev K B (c 2) (c 9) (c 0) (c 1) (c 5) (c 3) (c 4) sm label' link' W')
    (hp : ∃ pa pl pc xs, W'.cell? ⟨c 9, 0, none⟩ = some (.slice pa pl pc) ∧ W'.ownsRow B 21 1 (.slice pa pl pc) pl xs) (hk : Kx B (EvX (c 9) (c 5) (c 4)) W W') : LW K L B c W0 sm label' link' bucket next idom W' := by
  have bl : ∀ i, i < 10 → i ≠ 9 → i ≠ 5 → i ≠ 4 → W'.heap[c i]? = W.heap[c i]? := fun i hi h9 h5 h4 => hk.block _ (N.ge i hi).2 (fun e => by
    rcases e with e | e | e
    · exact N.ne i 9 hi (by omega) h9 e
    · exact N.ne i 5 hi (by omega) h5 e
    · exact N.ne i 4 hi (by omega) h4 e)
  refine ⟨⟨h.rws.x0.of_block (bl 0 (by omega) (by omega) (by omega) (by omega)), h.rws.x1.of_block (bl 1 (by omega) (by omega) (by omega) (by omega)), h.rws.x2.of_block (bl 2 (by omega) (by omega) (by omega) (by omega)), he.rs, he.rb, he.rl, h.rws.r6.of_block (bl 6 (by omega) (by omega) (by omega) (by omega)), h.rws.r7.of_block (bl 7 (by omega) (by omega) (by omega) (by omega)), h.rws.r8.of_block (bl 8 (by omega) (by omega) (by omega) (by omega))⟩, he.fp, hp, he.big, ?_⟩
  have g := N.ge 0 (by omega)
  exact h.bel.trans (hk.below (by omega) (fun k hk => by
    rcases hk with e | e | e
    · rw [e]; exact (N.ge 9 (by omega)).1
    · rw [e]; exact (N.ge 5 (by omega)).1
    · rw [e]; exact (N.ge 4 (by omega)).1))

theorem LW.drewN (h : LW K L B c W0 sm label link bucket next idom W) (m : Nat) : LW K L B c W0 sm label link bucket next idom (W.drewN m) :=
  ⟨h.rws.drewN m, h.fp, h.path, h.big, ⟨h.bel.os, h.bel.tape, h.bel.output, h.bel.size, h.bel.block⟩⟩
theorem LW.drew (h : LW K L B c W0 sm label link bucket next idom W) : LW K L B c W0 sm label link bucket next idom W.drew :=
  ⟨h.rws.drew, h.fp, h.path, h.big, h.bel.drew⟩

theorem LW.set_path (h : LW K L B c W0 sm label link bucket next idom W) (N : Bks 10 L B c) {i : Nat} (hi : i < 9) (u : Nat) (v : Value) :
    (W.setCell ⟨c i, u, none⟩ v).frozen? ⟨c 9, 0, none⟩ = false ∧ (∃ pa pl pc xs, (W.setCell ⟨c i, u, none⟩ v).cell? ⟨c 9, 0, none⟩ = some (.slice pa pl pc) ∧ (W.setCell ⟨c i, u, none⟩ v).ownsRow B 21 1 (.slice pa pl pc) pl xs) ∧ B ≤ (W.setCell ⟨c i, u, none⟩ v).heap.size ∧ Below L W0 (W.setCell ⟨c i, u, none⟩ v) := by
  obtain ⟨pa, pl, pc, xs, h1, h2⟩ := h.path
  exact ⟨by rw [World.frozen?_setCell]; exact h.fp, ⟨pa, pl, pc, xs, cell_other h1 (N.ne 9 i (by omega) (by omega) (by omega)) _, ownsRow_setCell_below h2 (by exact (N.ge i (by omega)).2) _⟩, by have := h.big; simp [World.setCell]; omega, h.bel.setCell (N.ge i (by omega)).1 _⟩

theorem LW.setSm (h : LW K L B c W0 sm label link bucket next idom W) (N : Bks 10 L B c) (u : Nat) (v : Int) : LW K L B c W0 (upd sm u v) label link bucket next idom (W.setCell ⟨c 3, u, none⟩ (.int .i32 v)) :=
  have p := h.set_path N (show 3 < 9 by omega) u (.int .i32 v)
  ⟨h.rws.setSm N (by omega) u v, p.1, p.2.1, p.2.2.1, p.2.2.2⟩
theorem LW.setLk (h : LW K L B c W0 sm label link bucket next idom W) (N : Bks 10 L B c) (u : Nat) (v : Int) : LW K L B c W0 sm label (upd link u v) bucket next idom (W.setCell ⟨c 5, u, none⟩ (.int .i32 v)) :=
  have p := h.set_path N (show 5 < 9 by omega) u (.int .i32 v)
  ⟨h.rws.setLk N (by omega) u v, p.1, p.2.1, p.2.2.1, p.2.2.2⟩
theorem LW.setBk (h : LW K L B c W0 sm label link bucket next idom W) (N : Bks 10 L B c) (u : Nat) (v : Int) : LW K L B c W0 sm label link (upd bucket u v) next idom (W.setCell ⟨c 6, u, none⟩ (.int .i32 v)) :=
  have p := h.set_path N (show 6 < 9 by omega) u (.int .i32 v)
  ⟨h.rws.setBk N (by omega) u v, p.1, p.2.1, p.2.2.1, p.2.2.2⟩
theorem LW.setNx (h : LW K L B c W0 sm label link bucket next idom W) (N : Bks 10 L B c) (u : Nat) (v : Int) : LW K L B c W0 sm label link bucket (upd next u v) idom (W.setCell ⟨c 7, u, none⟩ (.int .i32 v)) :=
  have p := h.set_path N (show 7 < 9 by omega) u (.int .i32 v)
  ⟨h.rws.setNx N (by omega) u v, p.1, p.2.1, p.2.2.1, p.2.2.2⟩
theorem LW.setId (h : LW K L B c W0 sm label link bucket next idom W) (N : Bks 10 L B c) (u : Nat) (v : Int) : LW K L B c W0 sm label link bucket next (upd idom u v) (W.setCell ⟨c 8, u, none⟩ (.int .i32 v)) :=
  have p := h.set_path N (show 8 < 9 by omega) u (.int .i32 v)
  ⟨h.rws.setId N (by omega) u v, p.1, p.2.1, p.2.2.1, p.2.2.2⟩
theorem LW.sm_congr (h : LW K L B c W0 sm label link bucket next idom W) {sm' : Nat → Int} (e : ∀ i, i < K → sm i = sm' i) : LW K L B c W0 sm' label link bucket next idom W :=
  ⟨⟨h.rws.x0, h.rws.x1, h.rws.x2, h.rws.r3.congr (fun i hi => by rw [e i hi]), h.rws.r4, h.rws.r5, h.rws.r6, h.rws.r7, h.rws.r8⟩, h.fp, h.path, h.big, h.bel⟩
end

/-- what stays -/
structure LC (NB K : Nat) (sc num : Nat → Int) (ord par tv tj : Nat → Nat) (fst at_ : Nat → Int) (bo bq S T : Nat) (w : World) (L B : Nat) (c : Nat → Nat) (s : Nat → Nat) (W0 : World) : Prop where
  dg : DG NB K sc num ord par tv tj fst at_ bo bq S T w L W0
  bk : Bks 10 L B c
  sem : Semi K (EN sc ord K) s
  nb : NB ≤ 4096
  bd : ∀ e, e < 2 * NB → -1 ≤ sc e ∧ sc e < NB

/-- the main loop's frame -/
def frL (NB K bo bq S T : Nat) (w : World) (c : Nat → Nat) (x : Nat → Value) (wv : Nat) : List Value :=
  fr9 x (.slice (some ⟨bo, 0, none⟩) K NB) (.slice (some ⟨c 8, 0, none⟩) K K) (.slice (some ⟨w.heap.size, 0, none⟩) NB NB) (.slice (some ⟨bq, 0, none⟩) K NB) (.int .i64 (K : Int)) (.slice (some ⟨S, 0, none⟩) (K + 1) (K + 2)) (.slice (some ⟨S + 1, 0, none⟩) T T)
      (.pointer (some ⟨c 0, 0, none⟩)) (.pointer (some ⟨c 1, 0, none⟩)) (.pointer (some ⟨c 2, 0, none⟩)) (.slice (some ⟨c 6, 0, none⟩) K K) (.slice (some ⟨c 7, 0, none⟩) K K) (.pointer (some ⟨c 9, 0, none⟩))
      (.func (.func 37) #[] #[.pointer (some ⟨c 2, 0, none⟩), .pointer (some ⟨c 9, 0, none⟩), .pointer (some ⟨c 0, 0, none⟩), .pointer (some ⟨c 1, 0, none⟩)]) (.int .i32 (wv : Int))

/-- at a cut of the main loop: those greater than lk are linked and have been put into a bucket, those greater than ss have their semidominators -/
def RelL (NB K bo bq S T : Nat) (w : World) (L B : Nat) (c : Nat → Nat) (par s : Nat → Nat) (W0 : World) (wv lk ss : Nat) (a : Act) (W : World) : Prop :=
  ∃ (x : Nat → Value) (sm label link bucket next idom : Nat → Int) (Lb : Nat → List Nat), a = ⟨(frL NB K bo bq S T w c x wv).toArray, []⟩ ∧ LW K L B c W0 sm label link bucket next idom W ∧ LInv K par s lk label link ∧ BInv K par s lk bucket next idom Lb ∧
    (∀ x, x ≤ ss → sm x = x) ∧ (∀ x, ss < x → x < K → sm x = s x)

theorem RelL.mk {NB K bo bq S T : Nat} {w : World} {L B : Nat} {c : Nat → Nat} {par s : Nat → Nat} {W0 : World} {wv lk ss : Nat} {W : World} {l : List Value} {sm label link bucket next idom : Nat → Int} {Lb : Nat → List Nat} (hf : l = frL NB K bo bq S T w c (nth l) wv)
    (h1 : LW K L B c W0 sm label link bucket next idom W) (h2 : LInv K par s lk label link) (h3 : BInv K par s lk bucket next idom Lb) (h4 : ∀ x, x ≤ ss → sm x = x) (h5 : ∀ x, ss < x → x < K → sm x = s x) : RelL NB K bo bq S T w L B c par s W0 wv lk ss ⟨l.toArray, []⟩ W :=
  ⟨nth l, sm, label, link, bucket, next, idom, Lb, by rw [← hf], h1, h2, h3, h4, h5⟩
end Go.Proofs.Ybulkexnju.W
