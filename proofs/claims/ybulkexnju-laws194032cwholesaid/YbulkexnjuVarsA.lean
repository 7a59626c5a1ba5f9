/-
  watchedVars: what it is handed, what it answers, the code behind each cut, the frame there; from its start to the loop that finds the leads.
-/
import Derived.Test.YbulkexnjuDom10
namespace Go.Proofs.Ybulkexnju.W
open Go.RowKit Go.Proofs.Ybulkexnju.G
set_option linter.unusedVariables false
set_option maxRecDepth 100000

noncomputable def tail11 (n : Nat) : Code := right n (Yba.f11.body.getD .skip)

/-- the operation of each kind -/
def opc : Nat → Int
  | 0 => 2
  | 1 => 27
  | 2 => 3
  | 3 => 20
  | 4 => 21
  | 5 => 22
  | 6 => 24
  | 7 => 25
  | _ => 1

/-- what watchedVars is handed: where it lies, and what it holds -/
structure VE where
  gf : Nat
  gops : Nat
  goff : Nat
  gidx : Nat
  gc : Nat
  gs : Nat
  n : Nat
  ns : Nat
  np : Nat
  kd : Nat → Nat
  tg : Nat → Nat
  X : Nat → Nat

def VE.env (V : VE) (H : Nat) : Env := ⟨H, H + 1, H + 2, H + 3, H + 4, V.gf, V.gops, V.goff, V.gidx, V.gc, V.gs, V.n, V.ns, V.np, fun i => opc (V.kd i), V.X⟩

structure VE.In (V : VE) (W : World) : Prop where
  lt : V.gf < W.heap.size ∧ V.gops < W.heap.size ∧ V.goff < W.heap.size ∧ V.gidx < W.heap.size ∧ V.gc < W.heap.size ∧ V.gs < W.heap.size
  n4 : V.n ≤ 4096
  ns8 : V.ns ≤ 8
  nps : V.np ≤ V.ns
  kd9 : ∀ i, i < V.n → V.kd i < 9
  tgn : ∀ i, i < V.n → jmp V.kd i → V.tg i < V.n ∧ V.X i = 5 * V.tg i
  xns : ∀ i, i < V.n → V.kd i ≤ 2 → V.X i < V.ns
  xlt : ∀ i, i < V.n → V.X i < 65536
  fp : W.cell? ⟨V.gf, 1, none⟩ = some (.int .i64 V.np)
  fs : W.cell? ⟨V.gf, 2, none⟩ = some (.slice (some ⟨V.gs, 0, none⟩) V.ns V.ns)
  fc : W.cell? ⟨V.gf, 4, none⟩ = some (.slice (some ⟨V.gc, 0, none⟩) (5 * V.n) (5 * V.n))
  ops : ∀ i, i < V.n → W.cell? ⟨V.gops, i, none⟩ = some (.int .u8 (opc (V.kd i)))
  off : ∀ i, i < V.n → W.cell? ⟨V.goff, i, none⟩ = some (.int .i64 (5 * (i : Int)))
  idx : ∀ i, i < V.n → W.cell? ⟨V.gidx, 5 * i, none⟩ = some (.int .i32 (i : Int))
  cod : ∀ i, i < V.n → W.cell? ⟨V.gc, 5 * i + 1, none⟩ = some (.int .u8 ((V.X i % 256 : Nat) : Int)) ∧ W.cell? ⟨V.gc, 5 * i + 1 + 1, none⟩ = some (.int .u8 ((V.X i / 256 : Nat) : Int)) ∧
    W.cell? ⟨V.gc, 5 * i + 1 + 2, none⟩ = some (.int .u8 0) ∧ W.cell? ⟨V.gc, 5 * i + 1 + 3, none⟩ = some (.int .u8 0)

def VE.rd (V : VE) (i : Nat) : Bool := isRd (opc (V.kd i))
def VE.sg (V : VE) (i : Nat) : Bool := isSg (opc (V.kd i))
/-- slot x is watched -/
def VE.Wat (V : VE) (x : Nat) : Prop := Watched V.n (EI V.n V.kd V.tg) V.rd V.sg V.X V.np x

/-- what watchedVars answers -/
def varsR (V : VE) (w : World) (e : Ending) (w' : World) : Prop :=
  ∃ r, e = .returned r ∧ Below w.heap.size w w' ∧ ((r = .slice none 0 0 ∧ ∀ x, ¬ V.Wat x) ∨
    ∃ (b : Nat) (f : Nat → Bool), r = .slice (some ⟨b, 0, none⟩) V.ns V.ns ∧ w'.rowIs b 4 V.ns (fun i => .bool (f i)) ∧ (∀ x, x < V.ns → (f x = true ↔ V.Wat x)) ∧ ∃ x, x < V.ns ∧ V.Wat x)

/-- what stands in memory all along -/
structure VB (V : VE) (w W : World) : Prop where
  env : (V.env w.heap.size).In (w.heap.size + 5) W
  bel : Below w.heap.size w W

theorem VB.later {V : VE} {w W W' : World} (h : VB V w W) (hb : Below (w.heap.size + 5) W W') : VB V w W' := ⟨h.env.mono hb, h.bel.trans (hb.mono (by omega))⟩

def fv (x : Nat → Value) (H n : Nat) (v16 v19 v22 v23 v26 v31 v33 v34 v35 v37 v38 : Value) : List Value :=
  [x 0, x 1, x 2, x 3, .pointer (some ⟨H, 0, none⟩), .pointer (some ⟨H + 1, 0, none⟩), x 6, x 7, x 8, .pointer (some ⟨H + 4, 0, none⟩), .func (Fn.func 27) #[] #[.pointer (some ⟨H + 1, 0, none⟩)], .func (Fn.func 28) #[] #[.pointer (some ⟨H + 1, 0, none⟩)], x 12, x 13, .int .i32 (n : Int), .func (Fn.func 29) #[] #[.pointer (some ⟨H + 3, 0, none⟩), .pointer (some ⟨H + 4, 0, none⟩)], v16, x 17, x 18, v19, x 20, x 21, v22, v23, x 24, x 25, v26, x 27, x 28, x 29, x 30, v31, x 32, v33, v34, v35, x 36, v37, v38, x 39, x 40, x 41, x 42, x 43, x 44, x 45, x 46, x 47, x 48, x 49, x 50, x 51, x 52, x 53, x 54, x 55, x 56, x 57, x 58, x 59, x 60, x 61, x 62, x 63, x 64, x 65, x 66, x 67, x 68, x 69, x 70, x 71, x 72, x 73, x 74, x 75, x 76, x 77, x 78, x 79, x 80, x 81, x 82, x 83, x 84, x 85, x 86, x 87, x 88, x 89, x 90, x 91, x 92, x 93, x 94, x 95, x 96, x 97, x 98, x 99, x 100, x 101, x 102, x 103, x 104, x 105, x 106, x 107, x 108, x 109, x 110, x 111, x 112, x 113, x 114, x 115, x 116, x 117, x 118, x 119, x 120, x 121, x 122, x 123, x 124, x 125, x 126, x 127, x 128, x 129, x 130, x 131, x 132, x 133, x 134, x 135, x 136, x 137, x 138, x 139, x 140, x 141, x 142, x 143, x 144, x 145, x 146, x 147, x 148, x 149, x 150, x 151, x 152, x 153, x 154, x 155, x 156, x 157, x 158, x 159, x 160, x 161, x 162, x 163, x 164, x 165, x 166, x 167, x 168, x 169, x 170, x 171, x 172, x 173, x 174, x 175, x 176, x 177, x 178, x 179, x 180, x 181, x 182, x 183, x 184, x 185, x 186, x 187, x 188, x 189, x 190, x 191, x 192, x 193, x 194, x 195, x 196, x 197, x 198, x 199, x 200, x 201, x 202, x 203, x 204, x 205, x 206, x 207, x 208, x 209, x 210, x 211, x 212, x 213, x 214, x 215, x 216, x 217, x 218, x 219, x 220, x 221, x 222, x 223, x 224, x 225, x 226, x 227, x 228, x 229, x 230, x 231, x 232, x 233, x 234, x 235, x 236, x 237, x 238, x 239, x 240, x 241, x 242, x 243, x 244, x 245, x 246, x 247, x 248, x 249, x 250, x 251, x 252, x 253, x 254, x 255, x 256, x 257, x 258, x 259, x 260, x 261, x 262, x 263, x 264, x 265, x 266, x 267, x 268, x 269, x 270, x 271, x 272, x 273, x 274, x 275, x 276, x 277, x 278, x 279, x 280, x 281, x 282, x 283, x 284, x 285, x 286, x 287, x 288, x 289, x 290, x 291, x 292, x 293, x 294, x 295, x 296, x 297, x 298, x 299, x 300, x 301, x 302, x 303, x 304, x 305, x 306, x 307, x 308, x 309, x 310, x 311, x 312, x 313, x 314, x 315, x 316, x 317, x 318, x 319, x 320, x 321, x 322, x 323, x 324, x 325, x 326, x 327, x 328, x 329, x 330, x 331, x 332, x 333, x 334, x 335, x 336, x 337, x 338, x 339, x 340, x 341, x 342, x 343, x 344, x 345, x 346, x 347, x 348, x 349, x 350, x 351, x 352, x 353, x 354, x 355, x 356, x 357, x 358, x 359]

def fv0 (x : Nat → Value) (H : Nat) : List Value :=
  [x 0, x 1, x 2, x 3, .pointer (some ⟨H, 0, none⟩), .pointer (some ⟨H + 1, 0, none⟩), x 6, .pointer (some ⟨H + 3, 0, none⟩), x 8, .pointer (some ⟨H + 4, 0, none⟩), .func (Fn.func 27) #[] #[.pointer (some ⟨H + 1, 0, none⟩)], .func (Fn.func 28) #[] #[.pointer (some ⟨H + 1, 0, none⟩)], .bool true, x 13, x 14, x 15, x 16, x 17, x 18, x 19, x 20, x 21, x 22, x 23, x 24, x 25, x 26, x 27, x 28, x 29, x 30, x 31, x 32, x 33, x 34, x 35, x 36, x 37, x 38, x 39, x 40, x 41, x 42, x 43, x 44, x 45, x 46, x 47, x 48, x 49, x 50, x 51, x 52, x 53, x 54, x 55, x 56, x 57, x 58, x 59, x 60, x 61, x 62, x 63, x 64, x 65, x 66, x 67, x 68, x 69, x 70, x 71, x 72, x 73, x 74, x 75, x 76, x 77, x 78, x 79, x 80, x 81, x 82, x 83, x 84, x 85, x 86, x 87, x 88, x 89, x 90, x 91, x 92, x 93, x 94, x 95, x 96, x 97, x 98, x 99, x 100, x 101, x 102, x 103, x 104, x 105, x 106, x 107, x 108, x 109, x 110, x 111, x 112, x 113, x 114, x 115, x 116, x 117, x 118, x 119, x 120, x 121, x 122, x 123, x 124, x 125, x 126, x 127, x 128, x 129, x 130, x 131, x 132, x 133, x 134, x 135, x 136, x 137, x 138, x 139, x 140, x 141, x 142, x 143, x 144, x 145, x 146, x 147, x 148, x 149, x 150, x 151, x 152, x 153, x 154, x 155, x 156, x 157, x 158, x 159, x 160, x 161, x 162, x 163, x 164, x 165, x 166, x 167, x 168, x 169, x 170, x 171, x 172, x 173, x 174, x 175, x 176, x 177, x 178, x 179, x 180, x 181, x 182, x 183, x 184, x 185, x 186, x 187, x 188, x 189, x 190, x 191, x 192, x 193, x 194, x 195, x 196, x 197, x 198, x 199, x 200, x 201, x 202, x 203, x 204, x 205, x 206, x 207, x 208, x 209, x 210, x 211, x 212, x 213, x 214, x 215, x 216, x 217, x 218, x 219, x 220, x 221, x 222, x 223, x 224, x 225, x 226, x 227, x 228, x 229, x 230, x 231, x 232, x 233, x 234, x 235, x 236, x 237, x 238, x 239, x 240, x 241, x 242, x 243, x 244, x 245, x 246, x 247, x 248, x 249, x 250, x 251, x 252, x 253, x 254, x 255, x 256, x 257, x 258, x 259, x 260, x 261, x 262, x 263, x 264, x 265, x 266, x 267, x 268, x 269, x 270, x 271, x 272, x 273, x 274, x 275, x 276, x 277, x 278, x 279, x 280, x 281, x 282, x 283, x 284, x 285, x 286, x 287, x 288, x 289, x 290, x 291, x 292, x 293, x 294, x 295, x 296, x 297, x 298, x 299, x 300, x 301, x 302, x 303, x 304, x 305, x 306, x 307, x 308, x 309, x 310, x 311, x 312, x 313, x 314, x 315, x 316, x 317, x 318, x 319, x 320, x 321, x 322, x 323, x 324, x 325, x 326, x 327, x 328, x 329, x 330, x 331, x 332, x 333, x 334, x 335, x 336, x 337, x 338, x 339, x 340, x 341, x 342, x 343, x 344, x 345, x 346, x 347, x 348, x 349, x 350, x 351, x 352, x 353, x 354, x 355, x 356, x 357, x 358, x 359]

/-- behind the first loop, some variable being read -/
def RelV0 (V : VE) (w : World) (a : Act) (W : World) : Prop :=
  ∃ (x : Nat → Value), a = ⟨(fv0 x w.heap.size).toArray, []⟩ ∧ VB V w W ∧ 0 < V.n

theorem RelV0.mk {V : VE} {w : World} {l : List Value} {W : World} (hf : l = fv0 (nth l) w.heap.size) (h1 : VB V w W) (h2 : 0 < V.n) : RelV0 V w ⟨l.toArray, []⟩ W :=
  ⟨nth l, by rw [← hf], h1, h2⟩

theorem vb_start {V : VE} {w : World} (hin : V.In w) (c1 c2 c3 c4 c5 : Array Value) (t1 t2 t3 t4 t5 : TypeId) (h1 : c1[0]? = some (.pointer (some ⟨V.gf, 0, none⟩))) (h2 : c2[0]? = some (.slice (some ⟨V.gops, 0, none⟩) V.n V.n)) (h3 : c3[0]? = some (.slice (some ⟨V.goff, 0, none⟩) V.n V.n)) (h4 : c4[0]? = some (.slice (some ⟨V.gidx, 0, none⟩) (5 * V.n) (5 * V.n))) (h5 : c5[0]? = some (.func (Fn.func 25) #[] #[.pointer (some ⟨w.heap.size, 0, none⟩), .pointer (some ⟨w.heap.size + 1 + 1, 0, none⟩)])) :
    VB V w (((((w.alloc (.cells c1 t1)).alloc (.cells c2 t2)).alloc (.cells c3 t3)).alloc (.cells c4 t4)).alloc (.cells c5 t5)) := by
  have hb : Below w.heap.size w (((((w.alloc (.cells c1 t1)).alloc (.cells c2 t2)).alloc (.cells c3 t3)).alloc (.cells c4 t4)).alloc (.cells c5 t5)) :=
    (((((Below.refl _ w).alloc (Nat.le_refl _) _).alloc (by simp) _).alloc (by simp; omega) _).alloc (by simp; omega) _).alloc (by simp; omega) _
  have cell : ∀ (W : World) (c : Array Value) (t : TypeId) (v : Value), c[0]? = some v → (W.alloc (.cells c t)).cell? ⟨W.heap.size, 0, none⟩ = some v := by
    intro W c t v h
    have h0 : 0 < c.size := by
      rcases Nat.lt_or_ge 0 c.size with h' | h'
      · exact h'
      · rw [Array.getElem?_eq_none (by omega)] at h; cases h
    have := World.rowIs_alloc W c t (fun i => (c[i]?).getD undef) (fun i hi => by simp [hi])
    rw [this.cell h0, h]; rfl
  have old : ∀ (W : World) (a : Addr) (o : Obj) (v : Value), W.cell? a = some v → (W.alloc o).cell? a = some v := fun W a o v h => by
    rw [((Below.refl W.heap.size W).alloc (Nat.le_refl _) o).cell (World.block_lt_of_cell? W _ h)]; exact h
  obtain ⟨l1, l2, l3, l4, l5, l6⟩ := hin.lt
  refine ⟨⟨?_, ?_, hin.n4, hin.xlt, ?_, ?_, ?_, ?_, ?_, cell_later hb hin.fp, cell_later hb hin.fs, cell_later hb hin.fc, fun i hi => cell_later hb (hin.ops i hi), fun i hi => cell_later hb (hin.off i hi), fun i hi => cell_later hb (hin.idx i hi), fun i hi => ?_⟩, hb⟩
  · simp only [VE.env]; omega
  · simp
  · exact old _ _ _ _ (old _ _ _ _ (old _ _ _ _ (old _ _ _ _ (cell w c1 t1 _ h1))))
  · refine old _ _ _ _ (old _ _ _ _ (old _ _ _ _ ?_))
    have := cell (w.alloc (.cells c1 t1)) c2 t2 _ h2
    simp only [World.size_alloc] at this
    exact this
  · refine old _ _ _ _ (old _ _ _ _ ?_)
    have := cell ((w.alloc (.cells c1 t1)).alloc (.cells c2 t2)) c3 t3 _ h3
    simp only [World.size_alloc] at this
    exact this
  · refine old _ _ _ _ ?_
    have := cell (((w.alloc (.cells c1 t1)).alloc (.cells c2 t2)).alloc (.cells c3 t3)) c4 t4 _ h4
    simp only [World.size_alloc] at this
    exact this
  · have := cell ((((w.alloc (.cells c1 t1)).alloc (.cells c2 t2)).alloc (.cells c3 t3)).alloc (.cells c4 t4)) c5 t5 _ h5
    simp only [World.size_alloc] at this
    exact this
  · obtain ⟨c1, c2, c3, c4⟩ := hin.cod i hi
    exact ⟨cell_later hb c1, cell_later hb c2, cell_later hb c3, cell_later hb c4⟩

theorem make_bool (kl kc : IntKind) (n : Nat) (hn : n ≤ 1048576) (w : World) : (Instr.makeSlice 23 (.int kl (n : Int)) (.int kc (n : Int))).run Yba.prog w = .ok (.slice (some ⟨w.heap.size, 0, none⟩) n n) (w.alloc (.cells (madeCells #[.bool false] n) 4)) :=
  run_make_row' (P := Yba.prog) 23 4 (.bool false) 1 Yba.underlying23 (by kernel_rfl) (by kernel_rfl) kl kc n (by omega) (by omega) w

set_option maxHeartbeats 8000000 in
theorem vars_start {V : VE} {w : World} (hin : V.In w) (hnext : ∀ a W, RelV0 V w a W → (tail11 6).wp Yba.prog (bodyPost Yba.prog Yba.f11 (varsR V w)) a W) :
    Calls Yba.prog 11 #[.pointer (some ⟨V.gf, 0, none⟩), .slice (some ⟨V.gops, 0, none⟩) V.n V.n, .slice (some ⟨V.goff, 0, none⟩) V.n V.n, .slice (some ⟨V.gidx, 0, none⟩) (5 * V.n) (5 * V.n)] w (varsR V w) := by
  go_enter Yba.func11, Yba.ntmps11
  have hn4 := hin.n4
  have HX : Hid (∀ a W, RelV0 V w a W → (tail11 6).wp Yba.prog (bodyPost Yba.prog Yba.f11 (varsR V w)) a W) := hnext
  have HV : Hid (VB V w (((((w.alloc (.cells #[.pointer (some ⟨V.gf, 0, none⟩)] 67)).alloc (.cells #[.slice (some ⟨V.gops, 0, none⟩) V.n V.n] 55)).alloc (.cells #[.slice (some ⟨V.goff, 0, none⟩) V.n V.n] 46)).alloc (.cells #[.slice (some ⟨V.gidx, 0, none⟩) (5 * V.n) (5 * V.n)] 57)).alloc (.cells #[(.func (Fn.func 25) #[] #[.pointer (some ⟨w.heap.size, 0, none⟩), .pointer (some ⟨w.heap.size + 1 + 1, 0, none⟩)])] 97))) := vb_start hin _ _ _ _ _ _ _ _ _ _ rfl rfl rfl rfl rfl
  have HI : Hid (V.In w) := hin
  clear hin hnext
  have hst : ∀ (w : World) (a : Addr) (m : Mode) (f : Fn) (x y : Array Value), (store a (.func f x y) m).run Yba.prog w = stored Yba.prog w a (.func f x y) m := fun w a m f x y => run_store Yba.prog w a _ m rfl
  go_wp2
  generalize hW : (((((w.alloc (.cells #[.pointer (some ⟨V.gf, 0, none⟩)] 67)).alloc (.cells #[.slice (some ⟨V.gops, 0, none⟩) V.n V.n] 55)).alloc (.cells #[.slice (some ⟨V.goff, 0, none⟩) V.n V.n] 46)).alloc (.cells #[.slice (some ⟨V.gidx, 0, none⟩) (5 * V.n) (5 * V.n)] 57)).alloc (.cells #[(.func (Fn.func 25) #[] #[.pointer (some ⟨w.heap.size, 0, none⟩), .pointer (some ⟨w.heap.size + 1 + 1, 0, none⟩)])] 97)) = W0 at *
  clear hW hst
  rename_i K0 hK0
  have HK0 : Hid (∀ a W, RelV0 V w a W → K0 a W) := fun a W h => hK0 a W (HX.out a W h)
  clear HX
  go_loopg [48, 12] V.n (fun gk s48 s12 wr => ∃ j : Nat, j ≤ V.n ∧ gk = V.n - j ∧ s48 = .int .i32 (j : Int) ∧ s12 = .bool false ∧ (∀ i, i < j → ¬ (V.rd i = true ∧ V.np ≤ V.X i)) ∧ VB V w wr)
  case atStart => exact ⟨0, by omega, rfl, rfl, rfl, fun i hi => by omega, HV.out⟩
  case round =>
    clear HV
    obtain ⟨j, hj, rfl, rfl, rfl, hno, hvb⟩ := hrel
    by_cases hlt : j < V.n
    · have hi4 : (j : Int) < (V.n : Int) := by omega
      have h1 := hvb.env.cx
      have h2 := hvb.env.cf
      have h3 := hvb.env.fp
      have hnp : IntKind.u32.wrap (V.np : Int) = (V.np : Int) := by rw [IntKind.wrap_u32]; have := HI.out.nps; have := HI.out.ns8; omega
      simp only [VE.env] at h1 h2 h3
      have A : Aside ((∀ i, i < j → ¬ (V.rd i = true ∧ V.np ≤ V.X i)) ∧ VB V w wr) := ⟨hno, hvb⟩
      have HR : Hid (∀ w' : World, Below wr.heap.size wr w' → Calls Yba.prog 27 #[.int .i32 (j : Int), .pointer (some ⟨w.heap.size + 1, 0, none⟩)] w' fun e w'' => e = .returned (.bool (V.rd j)) ∧ w'' = w') := fun w' hb => reads_any (V.env w.heap.size) (w.heap.size + 5) j w' (hvb.later (hb.mono hvb.env.big)).env hlt
      have HC : Hid (∀ w' : World, Below wr.heap.size wr w' → Calls Yba.prog 25 #[.int .i32 (j : Int), .pointer (some ⟨w.heap.size, 0, none⟩), .pointer (some ⟨w.heap.size + 2, 0, none⟩)] w' fun e w'' => e = .returned (.int .u32 (V.X j)) ∧ Below wr.heap.size wr w'') := fun w' hb => (x_any (V.env w.heap.size) (w.heap.size + 5) j w' (hvb.later (hb.mono hvb.env.big)).env hlt).mono (fun e w'' h => ⟨h.1, hb.trans (h.2.mono hb.size)⟩)
      obtain ⟨rv, erv⟩ : ∃ rv, rv = V.rd j := ⟨_, rfl⟩
      rw [← erv] at HR
      have HE : Aside (rv = V.rd j) := erv
      clear hno hvb hlt erv
      cases rv with
      | false =>
        go_wp2
        go_quiet (first | (go_at_call 27; refine Calls.quiet_of_same (HR.out _ ?_); exact below_drewN (Below.refl _ _) _))
        go_wp2
        go_roundg (V.n - (j + 1))
        case measure => omega
        case rel =>
          obtain ⟨hno, hvb⟩ := A.out
          refine ⟨j + 1, by omega, rfl, by go_num, rfl, fun i hi => ?_, hvb.later (below_drewN (Below.refl _ _) _)⟩
          by_cases c : i = j
          · subst c
            intro h
            rw [← HE.out] at h
            cases h.1
          · exact hno i (by omega)
      | true =>
        go_wp2
        go_region_held3 (fun w' => w'.cell? ⟨w.heap.size + 4, 0, none⟩ = some (.func (Fn.func 25) #[] #[.pointer (some ⟨w.heap.size, 0, none⟩), .pointer (some ⟨w.heap.size + 2, 0, none⟩)]) ∧ w'.cell? ⟨w.heap.size, 0, none⟩ = some (.pointer (some ⟨V.gf, 0, none⟩)) ∧ w'.cell? ⟨V.gf, 1, none⟩ = some (.int .i64 V.np)) (first | go_keep | exact ⟨cell_later hb h1, cell_later hb h2, cell_later hb h3⟩) (first | (go_at_call 27; refine (HR.out _ ?_).mono ?_; exact (Below.refl _ _).drew; rintro e w' ⟨rfl, rfl⟩) | (go_at_call 25; refine (HC.out _ ?_).mono ?_; exact (Below.refl _ _).drew; rintro e w' ⟨rfl, hb⟩))
        have A2 : Aside (VB V w w') := A.out.2.later (hb.mono A.out.2.env.big)
        have k5 := A2.out.env.cops
        simp only [VE.env] at k5
        have h0 : 0 < V.n := by omega
        have h0i : (0 : Int) < (V.n : Int) := by omega
        obtain ⟨cc, hcc⟩ : ∃ cc, decide (V.np ≤ V.X j) = cc := ⟨_, rfl⟩
        have HCC : Aside (decide (V.np ≤ V.X j) = cc) := hcc
        simp only [hcc]
        clear hcc hnp
        cases cc with
        | true =>
          clear hb h1 h2 h3 HR HC
          clear hK0
          go_wp2
          exact HK0.out _ _ (RelV0.mk rfl A2.out h0)
        | false =>
          have HX2 : Aside (¬ V.np ≤ V.X j) := of_decide_eq_false HCC.out
          clear hb h1 h2 h3 HR HC
          go_wp2
          go_roundg (V.n - (j + 1))
          case measure => omega
          case rel =>
            refine ⟨j + 1, by omega, rfl, by go_num, rfl, fun i hi => ?_, A2.out⟩
            by_cases c : i = j
            · subst c
              exact fun h => HX2.out h.2
            · exact A.out.1 i (by omega)
    · obtain rfl : j = V.n := by omega
      have A : Aside ((∀ i, i < V.n → ¬ (V.rd i = true ∧ V.np ≤ V.X i)) ∧ VB V w wr) := ⟨hno, hvb⟩
      clear hno hvb hlt
      go_wp2
      go_ret
      obtain ⟨hno, hvb⟩ := A.out
      refine ⟨_, rfl, hvb.bel, .inl ⟨rfl, ?_⟩⟩
      rintro x ⟨i, i1, i2, i3, i4, i5, i6⟩
      exact hno i i1 ⟨i3, by rw [i4]; exact i5⟩
end Go.Proofs.Ybulkexnju.W
