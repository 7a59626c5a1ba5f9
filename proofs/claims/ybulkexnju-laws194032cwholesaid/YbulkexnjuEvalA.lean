/-
  The memory that eval works on.
-/
import Derived.Test.YbulkexnjuRound
namespace Go.Proofs.Ybulkexnju.W
open Go.RowKit Go.Proofs.Ybulkexnju.G
set_option linter.unusedVariables false

/-- below B the world is as it was but at the blocks of X -/
structure Kx (B : Nat) (X : Nat → Prop) (w w' : World) : Prop where
  os : w'.os = w.os
  tape : w'.tape = w.tape
  output : w'.output = w.output
  size : w.heap.size ≤ w'.heap.size
  block : ∀ k, k < B → ¬ X k → w'.heap[k]? = w.heap[k]?

theorem Kx.refl (B : Nat) (X : Nat → Prop) (w : World) : Kx B X w w := ⟨rfl, rfl, rfl, Nat.le_refl _, fun _ _ _ => rfl⟩
theorem Kx.trans {B : Nat} {X : Nat → Prop} {a b c : World} (h : Kx B X a b) (k : Kx B X b c) : Kx B X a c :=
  ⟨k.os.trans h.os, k.tape.trans h.tape, k.output.trans h.output, Nat.le_trans h.size k.size, fun i h1 h2 => (k.block i h1 h2).trans (h.block i h1 h2)⟩
theorem Kx.drewN {B : Nat} {X : Nat → Prop} {a w : World} (h : Kx B X a w) (n : Nat) : Kx B X a (w.drewN n) := ⟨h.os, h.tape, h.output, h.size, h.block⟩
theorem Kx.drew {B : Nat} {X : Nat → Prop} {a w : World} (h : Kx B X a w) : Kx B X a w.drew := ⟨h.os, h.tape, h.output, h.size, h.block⟩
theorem Kx.alloc {B : Nat} {X : Nat → Prop} {a w : World} (h : Kx B X a w) (hB : B ≤ w.heap.size) (o : Obj) : Kx B X a (w.alloc o) :=
  h.trans ⟨rfl, rfl, rfl, by simp, fun k hk _ => Below.heap_alloc _ _ _ (by omega)⟩
theorem Kx.setCell {B : Nat} {X : Nat → Prop} {a w : World} (h : Kx B X a w) {p : Addr} (hp : B ≤ p.block ∨ X p.block) (u : Value) : Kx B X a (w.setCell p u) :=
  h.trans ⟨rfl, rfl, rfl, by simp [World.setCell], fun k hk hx => Below.heap_setCell _ _ _ _ (fun e => by subst e; rcases hp with hp | hp; omega; exact hx hp)⟩
theorem Kx.grown {B : Nat} {X : Nat → Prop} {a w w' : World} {row : Option Nat} (h : Kx B X a w) (hg : w.grownBy w' row) (hB : B ≤ w.heap.size) (hr : ∀ k, row = some k → B ≤ k ∨ X k) : Kx B X a w' :=
  h.trans ⟨hg.os, hg.tape, hg.output, hg.size, fun k hk hx => hg.block k (by omega) (fun e => by rcases hr k e.symm with c | c; omega; exact hx c)⟩
theorem Kx.below {B : Nat} {X : Nat → Prop} {w w' : World} (h : Kx B X w w') {n : Nat} (hn : n ≤ B) (hX : ∀ k, X k → n ≤ k) : Below n w w' :=
  ⟨h.os, h.tape, h.output, h.size, fun k hk => h.block k (by omega) (fun hx => by have := hX k hx; omega)⟩

/-- where the boxes and the rows lie -/
structure EvB (B bl bp bs bb gl gs gb : Nat) : Prop where
  a1 : bl < B
  a2 : bp < B
  a3 : bs < B
  a4 : bb < B
  a5 : gl < B
  a6 : gs < B
  a7 : gb < B
  p1 : bp ≠ bl
  p2 : bp ≠ bs
  p3 : bp ≠ bb
  p4 : bp ≠ gl
  p5 : bp ≠ gs
  p6 : bp ≠ gb
  l1 : gl ≠ bl
  l2 : gl ≠ bs
  l3 : gl ≠ bb
  l4 : gl ≠ gs
  l5 : gl ≠ gb
  b1 : gb ≠ bl
  b2 : gb ≠ bs
  b3 : gb ≠ bb
  b4 : gb ≠ gs

/-- the blocks that eval may turn -/
def EvX (bp gl gb : Nat) (k : Nat) : Prop := k = bp ∨ k = gl ∨ k = gb

structure Ev (N B bl bp bs bb gl gs gb : Nat) (sm label link : Nat → Int) (W : World) : Prop where
  cl : W.cell? ⟨bl, 0, none⟩ = some (.slice (some ⟨gl, 0, none⟩) N N)
  cs : W.cell? ⟨bs, 0, none⟩ = some (.slice (some ⟨gs, 0, none⟩) N N)
  cb : W.cell? ⟨bb, 0, none⟩ = some (.slice (some ⟨gb, 0, none⟩) N N)
  rl : W.rowIs gl 21 N (fun i => .int .i32 (link i))
  rs : W.rowIs gs 21 N (fun i => .int .i32 (sm i))
  rb : W.rowIs gb 21 N (fun i => .int .i32 (label i))
  fp : W.frozen? ⟨bp, 0, none⟩ = false
  big : B ≤ W.heap.size

section
variable {N B bl bp bs bb gl gs gb : Nat} {sm label link : Nat → Int} {W W' : World}

theorem Ev.of_blocks (h : Ev N B bl bp bs bb gl gs gb sm label link W) (H : EvB B bl bp bs bb gl gs gb) (hb : ∀ k, k < B → W'.heap[k]? = W.heap[k]?) (hs : B ≤ W'.heap.size) : Ev N B bl bp bs bb gl gs gb sm label link W' :=
  ⟨(World.cell?_of_block (a := ⟨bl, 0, none⟩) (hb _ H.a1)).trans h.cl, (World.cell?_of_block (a := ⟨bs, 0, none⟩) (hb _ H.a3)).trans h.cs, (World.cell?_of_block (a := ⟨bb, 0, none⟩) (hb _ H.a4)).trans h.cb, h.rl.of_block (hb _ H.a5), h.rs.of_block (hb _ H.a6), h.rb.of_block (hb _ H.a7), (World.frozen?_of_block (a := ⟨bp, 0, none⟩) (hb _ H.a2)).trans h.fp, hs⟩

theorem Ev.drewN (h : Ev N B bl bp bs bb gl gs gb sm label link W) (n : Nat) : Ev N B bl bp bs bb gl gs gb sm label link (W.drewN n) := ⟨h.cl, h.cs, h.cb, h.rl, h.rs, h.rb, h.fp, h.big⟩
theorem Ev.drew (h : Ev N B bl bp bs bb gl gs gb sm label link W) : Ev N B bl bp bs bb gl gs gb sm label link W.drew := ⟨h.cl, h.cs, h.cb, h.rl, h.rs, h.rb, h.fp, h.big⟩
theorem Ev.alloc (h : Ev N B bl bp bs bb gl gs gb sm label link W) (H : EvB B bl bp bs bb gl gs gb) (o : Obj) : Ev N B bl bp bs bb gl gs gb sm label link (W.alloc o) :=
  h.of_blocks H (fun k hk => Below.heap_alloc _ _ _ (by have := h.big; omega)) (by have := h.big; simp; omega)
theorem Ev.grown (h : Ev N B bl bp bs bb gl gs gb sm label link W) (H : EvB B bl bp bs bb gl gs gb) {row : Option Nat} (hg : W.grownBy W' row) (hr : ∀ k, row = some k → B ≤ k) : Ev N B bl bp bs bb gl gs gb sm label link W' :=
  h.of_blocks H (fun k hk => hg.block k (by have := h.big; omega) (fun e => by have := hr k e.symm; omega)) (Nat.le_trans h.big hg.size)

theorem cell_other {W : World} {a p : Addr} {v : Value} (h : W.cell? a = some v) (hne : a.block ≠ p.block) (u : Value) : (W.setCell p u).cell? a = some v :=
  (World.cell?_of_block (Below.heap_setCell W p u a.block hne)).trans h

theorem Ev.path (h : Ev N B bl bp bs bb gl gs gb sm label link W) (H : EvB B bl bp bs bb gl gs gb) (u : Value) : Ev N B bl bp bs bb gl gs gb sm label link (W.setCell ⟨bp, 0, none⟩ u) :=
  ⟨cell_other h.cl (Ne.symm H.p1) _, cell_other h.cs (Ne.symm H.p2) _, cell_other h.cb (Ne.symm H.p3) _, h.rl.setOther (Ne.symm H.p4) _, h.rs.setOther (Ne.symm H.p5) _, h.rb.setOther (Ne.symm H.p6) _, by rw [World.frozen?_setCell]; exact h.fp, by have := h.big; simp [World.setCell]; omega⟩

theorem Ev.setLink (h : Ev N B bl bp bs bb gl gs gb sm label link W) (H : EvB B bl bp bs bb gl gs gb) (u : Nat) (x : Int) : Ev N B bl bp bs bb gl gs gb sm label (upd link u x) (W.setCell ⟨gl, u, none⟩ (.int .i32 x)) :=
  ⟨cell_other h.cl (Ne.symm H.l1) _, cell_other h.cs (Ne.symm H.l2) _, cell_other h.cb (Ne.symm H.l3) _, (h.rl.set u _).congr (fun i _ => by unfold upd; by_cases c : i = u <;> simp [c]), h.rs.setOther (Ne.symm H.l4) _, h.rb.setOther (Ne.symm H.l5) _, by rw [World.frozen?_setCell]; exact h.fp, by have := h.big; simp [World.setCell]; omega⟩

theorem Ev.setLabel (h : Ev N B bl bp bs bb gl gs gb sm label link W) (H : EvB B bl bp bs bb gl gs gb) (u : Nat) (x : Int) : Ev N B bl bp bs bb gl gs gb sm (upd label u x) link (W.setCell ⟨gb, u, none⟩ (.int .i32 x)) :=
  ⟨cell_other h.cl (Ne.symm H.b1) _, cell_other h.cs (Ne.symm H.b2) _, cell_other h.cb (Ne.symm H.b3) _, h.rl.setOther H.l5 _, h.rs.setOther (Ne.symm H.b4) _, (h.rb.set u _).congr (fun i _ => by unfold upd; by_cases c : i = u <;> simp [c]), by rw [World.frozen?_setCell]; exact h.fp, by have := h.big; simp [World.setCell]; omega⟩
end

/-- the way that is gathered, as values -/
def wayV (q : Nat → Nat) (k : Nat) : List Value := (List.range k).map fun j => .int .i32 (q j : Int)
theorem wayV_len (q : Nat → Nat) (k : Nat) : (wayV q k).length = k := by simp [wayV]
theorem wayV_at (q : Nat → Nat) {k j : Nat} (h : j < k) : (wayV q k)[j]? = some (.int .i32 (q j : Int)) := by simp [wayV, h]
theorem wayV_snoc (q : Nat → Nat) (k x : Nat) : wayV (upd q (k + 1) x) (k + 1) = wayV q k ++ [.int .i32 (q k : Int)] := by
  unfold wayV
  rw [List.range_succ, List.map_append]
  congr 1
  · refine List.map_congr_left (fun j hj => ?_)
    have := List.mem_range.1 hj
    rw [upd_other _ _ (by omega)]
  · simp [upd_other q x (show k ≠ k + 1 by omega)]

/-- a slice cut to nothing -/
theorem ownsRow_cut {w : World} {base : Nat} {e : TypeId} {pa : Option Addr} {pl pc n : Nat} {xs : List Value} (h : w.ownsRow base e 1 (.slice pa pl pc) n xs) : w.ownsRow base e 1 (.slice pa 0 pc) 0 [] := by
  obtain ⟨_, ⟨h1, _⟩ | ⟨g, cap, cur, h1, h2, h3, h4, h5, h6, h7⟩⟩ := h
  · injection h1 with e1 e2 e3
    subst e1; subst e3
    exact World.ownsRow_nil _ _ _ _
  · injection h1 with e1 e2 e3
    subst e1; subst e3
    exact ⟨rfl, .inr ⟨g, pc, cur, rfl, h2, h3, by omega, h5, h6, by simp⟩⟩

theorem ownsRow_alike {w : World} {base : Nat} {e : TypeId} {pa : Option Addr} {pl pc n : Nat} {xs : List Value} (h : w.ownsRow base e 1 (.slice pa pl pc) n xs) : pl = n := by
  obtain ⟨_, ⟨h1, h2⟩ | ⟨g, cap, cur, h1, _⟩⟩ := h
  · injection h1 with e1 e2 e3; omega
  · injection h1

theorem zip2 (t : Array Value) (x y : Value) : Array.foldl (fun t (z : Tmp × Value) => match z with | (p, v) => t.setIfInBounds p v) t ((#[38, 39] : Array Tmp).zip #[x, y]) = (t.setIfInBounds 38 x).setIfInBounds 39 y := by simp

/-- the law of the range, its variable in slot 9 -/
theorem wpIn_back9 {n : Nat} {assign body : Code} {Q : Exit → Act → World → Prop} {a : Act} {w : World} (h1 : 1 ≤ n) (h2 : 1 ≤ n - 1) {Bs gp k cap : Nat} {pv : Value} (hk : k ≤ 1048576) (xs : Nat → Int)
    (hpv : (pv = .slice none 0 0 ∧ k = 0) ∨ pv = .slice (some ⟨gp, 0, none⟩) k cap)
    (hg : a.eval (.tmp 37) = .func (.func 40) #[] #[.pointer (some ⟨Bs, 0, none⟩)])
    (I : Nat → World → Prop) (hI : OwnFrom w.heap.size I)
    (hJ : ∀ t W, I t W → W.cell? ⟨Bs, 0, none⟩ = some pv ∧ ∀ j, j < k → W.cell? ⟨gp, j, none⟩ = some (.int .i32 (xs j)))
    (h0 : I 0 w)
    (hassign : ∀ (l t : Nat) (W : World) (K : Act → World → Prop), K { tmps := ((a.tmps.setIfInBounds 38 (.int .i64 ((k - 1 - t : Nat) : Int))).setIfInBounds 39 (.int .i32 (xs (k - 1 - t)))).setIfInBounds 9 (.int .i32 (xs (k - 1 - t))), defers := [] } W →
      assign.wpIn (Fence.wide.inRound l) (n - 1 - 1) Yba.prog (Exit.then K (fun _ _ _ => False)) { tmps := (a.tmps.setIfInBounds 38 (.int .i64 ((k - 1 - t : Nat) : Int))).setIfInBounds 39 (.int .i32 (xs (k - 1 - t))), defers := [] } W)
    (hbody : ∀ (l t : Nat) (W : World), t < k → I t W → body.wpIn (Fence.wide.inRound l) (n - 1 - 1) Yba.prog (fun e _ W' => e = .normal ∧ KeepsFrom w.heap.size W W' ∧ I (t + 1) W')
      { tmps := ((a.tmps.setIfInBounds 38 (.int .i64 ((k - 1 - t : Nat) : Int))).setIfInBounds 39 (.int .i32 (xs (k - 1 - t)))).setIfInBounds 9 (.int .i32 (xs (k - 1 - t))), defers := [] } W)
    (hdone : ∀ (D : Nat) (W : World), w.heap.size ≤ D → I k W → W.heap[D]? = some (.deferred (some [])) → Q .normal { a with defers := { target := .collected D, args := #[] } :: a.defers } W) :
    (Code.rangeFunc (.tmp 37) #[38, 39] assign body).wp Yba.prog Q a w :=
  wpIn_wide.1 (wpIn_back rfl h1 h2 trivial hk xs hpv hg rfl I hI hJ h0 _ (fun l t W K hK => by rw [zip2]; exact hassign l t W K hK) hbody hdone)

set_option maxHeartbeats 1000000 in
theorem slice_zero (pa : Option Addr) (pl pc : Nat) (hp : pa = none → pc = 0) (W : World) : (Instr.slice 57 (.slice pa pl pc) none (some (.int .i64 0)) none).run Yba.prog W = .ok (.slice pa 0 pc) W := by
  cases pa with
  | none =>
    rw [hp rfl]
    go_simp
  | some a =>
    go_simp
end Go.Proofs.Ybulkexnju.W
