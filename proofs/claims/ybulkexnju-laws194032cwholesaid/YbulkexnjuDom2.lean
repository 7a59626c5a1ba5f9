/-
  dominators: the depth-first walk.
-/
import Derived.Test.YbulkexnjuDom1
namespace Go.Proofs.Ybulkexnju.W
open Go.RowKit Go.Proofs.Ybulkexnju.G
set_option linter.unusedVariables false

theorem info116 : (Yba.prog.info? 116).map (fun i => (i.zero, i.size, i.bytes)) = some (some (.agg #[.int .i32 0, .int .i32 0]), 2, 8) := by kernel_rfl

theorem make_walk (kl kc : IntKind) (l n : Nat) (hl : l ≤ n) (hn : n ≤ 1048576) (w : World) : (Instr.makeSlice 114 (.int kl (l : Int)) (.int kc (n : Int))).run Yba.prog w = .ok (.slice (some ⟨w.heap.size, 0, none⟩) l n) (w.alloc (.cells (madeCells #[.int .i32 0, .int .i32 0] (n * 2)) 116)) := by
  obtain ⟨i, hi, hzz⟩ := Option.map_eq_some_iff.1 info116
  simp only [Prod.mk.injEq] at hzz
  obtain ⟨hz, hs, hb⟩ := hzz
  have hr := run_make (P := Yba.prog) w 114 116 i _ Yba.underlying114 hi hz kl kc l n (by omega) (by omega) (by rw [hb]; omega) (by omega)
  simp only [Int.toNat_natCast, hs] at hr
  exact hr

structure DB (H bo bq bw : Nat) : Prop where
  o1 : H + 1 ≤ bo
  q1 : H + 1 ≤ bq
  w1 : H + 1 ≤ bw
  oq : bo ≠ bq
  ow : bo ≠ bw
  qw : bq ≠ bw

/-- what the walk's memory holds -/
structure DW (H NB bo bq bw : Nat) (w : World) (num : Nat → Int) (O Pa V : List Value) (K Kp d : Nat) (W : World) : Prop where
  rn : W.rowIs H 21 NB (fun i => .int .i32 (num i))
  ro : W.ownsRow (H + 1) 21 1 (.slice (some ⟨bo, 0, none⟩) K NB) K O
  rq : W.ownsRow (H + 1) 21 1 (.slice (some ⟨bq, 0, none⟩) Kp NB) Kp Pa
  rv : W.ownsRow (H + 1) 116 2 (.slice (some ⟨bw, 0, none⟩) d NB) d V
  bel : Below H w W

section
variable {H NB bo bq bw : Nat} {w : World} {num : Nat → Int} {O Pa V : List Value} {K Kp d : Nat} {W W' : World}

theorem ne_block {b b' : Nat} {n c : Nat} (h : b ≠ b') : (Value.slice (some ⟨b, 0, none⟩) n c).ownBlock = none ∨ (Value.slice (some ⟨b, 0, none⟩) n c).ownBlock ≠ some b' :=
  .inr (fun e => h (by injection e))

theorem grow_set (W : World) (b j : Nat) (v : Value) : W.grownBy (W.setCell ⟨b, j, none⟩ v) (some b) :=
  ⟨rfl, rfl, rfl, by simp [World.setCell], fun k _ hk => Below.heap_setCell _ _ _ _ (fun e => hk (by rw [e]))⟩

theorem DW.setNum (h : DW H NB bo bq bw w num O Pa V K Kp d W) (B : DB H bo bq bw) (z : Nat) (v : Int) : DW H NB bo bq bw w (upd num z v) O Pa V K Kp d (W.setCell ⟨H, z, none⟩ (.int .i32 v)) :=
  ⟨(h.rn.set z _).congr (fun i _ => by unfold upd; by_cases c : i = z <;> simp [c]), h.ro.kept (grow_set _ _ _ _) (ne_block (by have := B.o1; omega)), h.rq.kept (grow_set _ _ _ _) (ne_block (by have := B.q1; omega)), h.rv.kept (grow_set _ _ _ _) (ne_block (by have := B.w1; omega)), h.bel.setCell (Nat.le_refl _) _⟩

theorem DW.setTop (h : DW H NB bo bq bw w num O Pa V K Kp d W) (B : DB H bo bq bw) (j : Nat) (v : Value) : DW H NB bo bq bw w num O Pa (V.set j v) K Kp d (W.setCell ⟨bw, j, none⟩ v) :=
  ⟨h.rn.setOther (by have := B.w1; show H ≠ bw; omega) _, h.ro.kept (grow_set _ _ _ _) (ne_block B.ow), h.rq.kept (grow_set _ _ _ _) (ne_block B.qw), (h.rv.stored j v).1, h.bel.setCell (by have := B.w1; show H ≤ bw; omega) _⟩

theorem DW.drewN (h : DW H NB bo bq bw w num O Pa V K Kp d W) (m : Nat) : DW H NB bo bq bw w num O Pa V K Kp d (W.drewN m) := ⟨h.rn, h.ro, h.rq, h.rv, ⟨h.bel.os, h.bel.tape, h.bel.output, h.bel.size, h.bel.block⟩⟩

theorem DW.alloc (h : DW H NB bo bq bw w num O Pa V K Kp d W) (o : Obj) : DW H NB bo bq bw w num O Pa V K Kp d (W.alloc o) :=
  ⟨h.rn.alloc _, h.ro.alloc _, h.rq.alloc _, h.rv.alloc _, h.bel.alloc (by have := h.rn.lt; omega) _⟩

theorem DW.order (h : DW H NB bo bq bw w num O Pa V K Kp d W) (B : DB H bo bq bw) (hg : W.grownBy W' (some bo)) {K' : Nat} {O' : List Value} (ho : W'.ownsRow (H + 1) 21 1 (.slice (some ⟨bo, 0, none⟩) K' NB) K' O') : DW H NB bo bq bw w num O' Pa V K' Kp d W' :=
  ⟨h.rn.of_block (hg.block _ h.rn.lt (fun e => by injection e with e; have := B.o1; omega)), ho, h.rq.kept hg (ne_block (Ne.symm B.oq)), h.rv.kept hg (ne_block (Ne.symm B.ow)), h.bel.grown hg (by have := h.rn.lt; omega) (fun k e => by injection e with e; have := B.o1; omega)⟩

theorem DW.par (h : DW H NB bo bq bw w num O Pa V K Kp d W) (B : DB H bo bq bw) (hg : W.grownBy W' (some bq)) {K' : Nat} {O' : List Value} (ho : W'.ownsRow (H + 1) 21 1 (.slice (some ⟨bq, 0, none⟩) K' NB) K' O') : DW H NB bo bq bw w num O O' V K K' d W' :=
  ⟨h.rn.of_block (hg.block _ h.rn.lt (fun e => by injection e with e; have := B.q1; omega)), h.ro.kept hg (ne_block B.oq), ho, h.rv.kept hg (ne_block (Ne.symm B.qw)), h.bel.grown hg (by have := h.rn.lt; omega) (fun k e => by injection e with e; have := B.q1; omega)⟩

theorem DW.walk (h : DW H NB bo bq bw w num O Pa V K Kp d W) (B : DB H bo bq bw) (hg : W.grownBy W' (some bw)) {K' : Nat} {O' : List Value} (ho : W'.ownsRow (H + 1) 116 2 (.slice (some ⟨bw, 0, none⟩) K' NB) K' O') : DW H NB bo bq bw w num O Pa O' K Kp K' W' :=
  ⟨h.rn.of_block (hg.block _ h.rn.lt (fun e => by injection e with e; have := B.w1; omega)), h.ro.kept hg (ne_block B.ow), h.rq.kept hg (ne_block B.qw), ho, h.bel.grown hg (by have := h.rn.lt; omega) (fun k e => by injection e with e; have := B.w1; omega)⟩
end

theorem wayV_push (q : Nat → Nat) (k x : Nat) : wayV (upd q k x) (k + 1) = wayV q k ++ [.int .i32 (x : Int)] := by
  unfold wayV
  rw [List.range_succ, List.map_append]
  congr 1
  · refine List.map_congr_left (fun j hj => ?_)
    have := List.mem_range.1 hj
    rw [upd_other _ _ (by omega)]
  · simp [upd_same]

theorem _root_.Go.Proofs.Ybulkexnju.G.DInv.depth {NB : Nat} {sc num : Nat → Int} {ord par tv tj : Nat → Nat} {K d : Nat} (h : DInv NB sc num ord par K (d + 1) tv tj) : d + 1 ≤ K := by
  have key : ∀ i, i < d + 1 → i ≤ tv i := by
    intro i
    induction i with
    | zero => intro _; omega
    | succ i ih =>
      intro hi
      have h1 := ih (by omega)
      have h2 := h.mo i (i + 1) (by omega) hi
      omega
  have h1 := key d (by omega)
  have h2 := (h.t d (by omega)).1
  omega

/-- the cells of what is appended: one struct of two cells, new -/
theorem cells_pair (W : World) (t : TypeId) (a b : Value) : ∀ (j : Nat) (u : Value), [a, b][j]? = some u → (W.alloc (.cells #[a, b] t)).cell? ((⟨W.heap.size, 0, none⟩ : Addr).add j) = some u := by
  intro j u hj
  have h := World.rowIs_alloc W #[a, b] t (fun i => if i = 0 then a else b) (fun i hi => by
    have : i = 0 ∨ i = 1 := by simp at hi; omega
    rcases this with e | e <;> subst e <;> rfl)
  rcases j with _ | _ | j
  · have := h.cell (i := 0) (by simp)
    simp at hj
    subst hj
    rw [Addr.add_lit]
    exact this.trans (by simp)
  · have := h.cell (i := 1) (by simp)
    simp at hj
    subst hj
    rw [Addr.add_lit]
    exact this.trans (by simp)
  · simp at hj

theorem cells_one (W : World) (t : TypeId) (a : Value) : ∀ (j : Nat) (u : Value), [a][j]? = some u → (W.alloc (.cells #[a] t)).cell? ((⟨W.heap.size, 0, none⟩ : Addr).add j) = some u := by
  intro j u hj
  rcases j with _ | j
  · injection hj with hj
    subst hj
    exact (cell_new_l W _ _).1
  · simp at hj

set_option maxRecDepth 100000 in
set_option maxHeartbeats 4000000 in
theorem dom_walk {NB g : Nat} {sc : Nat → Int} {w : World} (hin : DomIn NB g sc w) (hnext : ∀ a W, Rel3 NB g sc w a W → (tail30 6).wp Yba.prog (bodyPost Yba.prog Yba.f30 (domR NB sc w)) a W) :
    ∀ a W, Rel2 NB g sc w a W → (tail30 4).wp Yba.prog (bodyPost Yba.prog Yba.f30 (domR NB sc w)) a W := by
  rintro a W ⟨x, bo, bq, rfl, hrow, ho, hq, hne, hbel⟩
  have hn0 := hin.n0
  have hnb := hin.nb
  have hn0i : (0 : Int) < (NB : Int) := by omega
  have hin' : Aside (DomIn NB g sc w) := hin
  obtain ⟨M, hM⟩ : ∃ M : Nat, M = 2 * NB := ⟨_, rfl⟩
  rw [← hM]
  have HM : Aside (M = 2 * NB) := hM
  have HX : Aside (∀ a W, Rel3 NB g sc w a W → (tail30 6).wp Yba.prog (bodyPost Yba.prog Yba.f30 (domR NB sc w)) a W) := hnext
  unfold fr2
  conv => arg 2; whnf
  have c1 := hrow.cell hn0
  have f1 := hrow.frozen 0
  have hmk := make_walk .i64 .i64 0 NB (by omega) (by omega)
  rw [show ((0 : Nat) : Int) = 0 from rfl] at hmk
  have A : Aside (W.rowIs w.heap.size 21 NB (fun _ => .int .i32 (-1)) ∧ W.ownsRow (w.heap.size + 1) 21 1 (.slice (some ⟨bo, 0, none⟩) 1 NB) 1 [.int .i32 0] ∧ W.ownsRow (w.heap.size + 1) 21 1 (.slice (some ⟨bq, 0, none⟩) 1 NB) 1 [.int .i32 0] ∧ bo ≠ bq ∧ Below w.heap.size w W) := ⟨hrow, ho, hq, hne, hbel⟩
  clear hrow ho hq hne hbel hin hnext hM
  obtain ⟨i, hi, hzz⟩ := Option.map_eq_some_iff.1 info116
  simp only [Prod.mk.injEq] at hzz
  obtain ⟨hz0, hz1, hz2⟩ := hzz
  have HI : Hid (Yba.prog.info? 116 = some i ∧ i.size = 2) := ⟨hi, hz1⟩
  clear hi hz0 hz1 hz2
  go_wp2_with (at_builtin; refine wpList_append_fits _ rfl (.tmp 55) (.tmp 57) 114 rfl (w.heap.size + 1) 116 i 2 Yba.underlying114 HI.out.1 HI.out.2 W.heap.size 0 NB [] rfl ?a1 ⟨W.heap.size + 1, 0, none⟩ 1 1 [.int .i32 0, .int .i32 0] rfl rfl ?a2 ?a3 ?a4 ?a5)
  case a1 =>
    obtain ⟨hrow, ho, hq, hne, hbel⟩ := A.out
    have hlt := hrow.lt
    have := World.ownsRow_made (e := 116) (base := w.heap.size + 1) (size := 2) (W.setCell ⟨w.heap.size, 0, none⟩ (.int .i32 0)) (madeCells #[.int .i32 0, .int .i32 0] (NB * 2)) NB (by simp [World.setCell]; omega) (by unfold maxLen; omega) (by rw [size_madeCells])
    have h2 := World.ownsRow.alloc this (.cells #[.int .i32 0, .int .i32 0] 116)
    simpa [World.setCell] using h2
  case a2 =>
    have := cells_pair ((W.setCell ⟨w.heap.size, 0, none⟩ (.int .i32 0)).alloc (.cells (madeCells #[.int .i32 0, .int .i32 0] (NB * 2)) 116)) 116 (.int .i32 0) (.int .i32 0)
    simpa [World.setCell] using this
  case a3 =>
    intro u hu
    simp at hu
    rw [hu]
    rfl
  case a4 => omega
  case a5 =>
    intro W1 hown1 hgrow1
    obtain ⟨hB, hD⟩ : Aside (DB w.heap.size bo bq W.heap.size) ∧ Aside (DW w.heap.size NB bo bq W.heap.size w (fun i => if i = 0 then 0 else -1) (wayV (fun _ => 0) 1) (wayV (fun _ => 0) 1) (visV (fun _ => 0) (fun _ => 0) (fun _ => 0) 1) 1 1 1 W1) := by
      obtain ⟨hrow, ho, hq, hne, hbel⟩ := A.out
      have h1 := ho.lt bo rfl
      have h2 := hq.lt bq rfl
      have h3 := hrow.lt
      refine ⟨⟨h1.1, h2.1, by omega, hne, by omega, by omega⟩, ⟨?_, ?_, ?_, hown1, ?_⟩⟩
      · refine ((((hrow.set 0 _).alloc _).alloc _).of_block (hgrow1.block _ (by simp [World.setCell]; omega) (fun e => by injection e with e; omega))).congr (fun i _ => ?_)
        by_cases c : i = 0
        · rw [if_pos c, if_pos c]
        · rw [if_neg c, if_neg c]
      · exact (World.ownsRow.alloc (World.ownsRow.alloc (ho.kept (grow_set _ _ _ _) (ne_block (by omega))) _) _).kept hgrow1 (ne_block (by omega))
      · exact (World.ownsRow.alloc (World.ownsRow.alloc (hq.kept (grow_set _ _ _ _) (ne_block (by omega))) _) _).kept hgrow1 (ne_block (by omega))
      · exact (((hbel.setCell (Nat.le_refl _) _).alloc (by simp [World.setCell]; omega) _).alloc (by simp [World.setCell]; omega) _).grown hgrow1 (by simp [World.setCell]; omega) (fun k e => by injection e with e; omega)
    clear A c1 f1 hmk hown1 hgrow1 HI i
    generalize W.heap.size = bw at *
    go_wp2
    rename_i hK
    have hK' : ∀ a W, Rel3 NB g sc w a W → _ := fun a W h => hK a W (HX.out a W h)
    clear hK
    go_loopg [2, 6, 7] (3 * NB) (fun gk v2 v6 v7 wr => ∃ (K d : Nat) (num : Nat → Int) (ord par tv tj : Nat → Nat), gk = 3 * (NB - K) + visits tj d ∧ v2 = .slice (some ⟨bo, 0, none⟩) K NB ∧ v6 = .slice (some ⟨bq, 0, none⟩) K NB ∧ v7 = .slice (some ⟨bw, 0, none⟩) d NB ∧
      DInv NB sc num ord par K d tv tj ∧ DW w.heap.size NB bo bq bw w num (wayV ord K) (wayV par K) (visV ord tv tj d) K K d wr)
    case atStart =>
      refine ⟨1, 1, _, fun _ => 0, fun _ => 0, fun _ => 0, fun _ => 0, ?_, rfl, rfl, rfl, DInv.start hn0 (fun v _ => rfl) rfl rfl rfl rfl, hD.out⟩
      simp [visits]
      omega
    case round =>
      obtain ⟨K, d, num, ord, par, tv, tj, hgk, rfl, rfl, rfl, hinv, hdw⟩ := hrel
      cases d with
      | zero =>
        clear hD
        have A : Aside (DInv NB sc num ord par K 0 tv tj ∧ DW w.heap.size NB bo bq bw w num (wayV ord K) (wayV par K) (visV ord tv tj 0) K K 0 wr) := ⟨hinv, hdw⟩
        clear hinv hdw hgk
        go_wp2
        obtain ⟨hinv, hdw⟩ := A.out
        have hM := HM.out
        exact Rel3.mk (by rw [← hM]; rfl) hdw.rn hdw.ro hdw.rq hB.out.oq hdw.bel hinv
      | succ d =>
        have hKN := hinv.kN
        have ht := hinv.t d (by omega)
        have hvd := (hinv.oN (tv d) ht.1)
        have cv : wr.cell? ⟨bw, d * 2, none⟩ = some (.int .i32 (ord (tv d) : Int)) := by rw [hdw.rv.cellAt _ (by omega), visV_v]
        have cj : wr.cell? ⟨bw, d * 2 + 1, none⟩ = some (.int .i32 (tj d : Int)) := by rw [hdw.rv.cellAt _ (by omega), visV_j]
        have fj := hdw.rv.frozenAt (d * 2 + 1)
        have hdN : d + 1 ≤ NB := by
          obtain ⟨_, ⟨h1, _⟩ | ⟨_, _, _, h1, _, _, h2, _⟩⟩ := hdw.rv
          · cases h1
          · injection h1 with _ _ e; omega
        obtain ⟨y, ey⟩ : ∃ y, y = ord (tv d) := ⟨_, rfl⟩
        obtain ⟨j, ej⟩ : ∃ j, j = tj d := ⟨_, rfl⟩
        rw [← ey] at cv
        rw [← ej] at cj
        by_cases hj2 : j = 2
        · subst hj2
          have A : Aside (DInv NB sc num ord par K (d + 1) tv tj ∧ DW w.heap.size NB bo bq bw w num (wayV ord K) (wayV par K) (visV ord tv tj (d + 1)) K K (d + 1) wr ∧ 2 = tj d ∧ gk = 3 * (NB - K) + visits tj (d + 1)) := ⟨hinv, hdw, ej, hgk⟩
          clear hinv hdw hgk hD ej ey ht hvd hKN
          go_wp2
          go_roundg (3 * (NB - K) + visits tj d)
          case measure =>
            obtain ⟨_, _, ej, hgk⟩ := A.out
            rw [hgk]
            simp only [visits]
            omega
          case rel =>
            obtain ⟨hinv, hdw, ej, hgk⟩ := A.out
            exact ⟨K, d, num, ord, par, tv, tj, rfl, rfl, rfl, rfl, hinv.pop ej.symm, ⟨hdw.rn, hdw.ro, hdw.rq, ownsRow_pop (by rw [visV_len]) hdw.rv, hdw.bel⟩⟩
        · have hj : j < 2 := by omega
          have hji : (j : Int) < 2 := by omega
          have hyN : y < NB := by rw [ey]; exact hvd.1
          have hny : num y = (tv d : Int) := by rw [ey]; exact hvd.2
          obtain ⟨e, he⟩ : ∃ e, e = 2 * y + j := ⟨_, rfl⟩
          have heM : e < M := by have := HM.out; omega
          have heMi : (e : Int) < (M : Int) := by omega
          have hei : 2 * (y : Int) + (j : Int) = (e : Int) := by omega
          have hce : wr.cell? ⟨g, e, none⟩ = some (.int .i32 (sc e)) := cell_later hdw.bel (hin'.out.row e (by have := HM.out; omega))
          have hzb := hin'.out.bd e (by have := HM.out; omega)
          obtain ⟨z, hz⟩ : ∃ z, z = sc e := ⟨_, rfl⟩
          rw [← hz] at hce hzb
          have hsz : sc (2 * ord (tv d) + tj d) = z := by rw [hz, he, ey, ej]
          have hyi : (y : Int) < 4096 := by omega
          by_cases hz0 : z < 0
          · have A : Aside (DInv NB sc num ord par K (d + 1) tv tj ∧ DW w.heap.size NB bo bq bw w num (wayV ord K) (wayV par K) (visV ord tv tj (d + 1)) K K (d + 1) wr ∧ j = tj d ∧ gk = 3 * (NB - K) + visits tj (d + 1) ∧ sc (2 * ord (tv d) + tj d) = z) := ⟨hinv, hdw, ej, hgk, hsz⟩
            clear hinv hdw hgk hD ej ey ht hvd hKN hsz hz he hny
            go_wp2
            go_quiet (fail)
            go_wp2
            go_roundg (3 * (NB - K) + visits (upd tj d (j + 1)) (d + 1))
            case measure =>
              obtain ⟨_, _, ej, hgk, _⟩ := A.out
              have := visits_skip tj d (by omega)
              rw [ej, hgk]
              omega
            case rel =>
              obtain ⟨hinv, hdw, ej, hgk, hsz⟩ := A.out
              refine ⟨K, d + 1, num, ord, par, tv, upd tj d (j + 1), rfl, rfl, rfl, rfl, by rw [ej]; exact hinv.skip (by omega) (fun v hv => by omega), ?_⟩
              rw [← visV_set]
              exact (hdw.drewN nq).setTop hB.out (d * 2 + 1) _
          · obtain ⟨v, rfl⟩ : ∃ v : Nat, z = v := ⟨z.toNat, by omega⟩
            have hvN : v < NB := by omega
            have hvi : (v : Int) < (NB : Int) := by omega
            have cn := hdw.rn.cell hvN
            have fn := hdw.rn.frozen v
            have hHw : w.heap.size ≠ bw := by have := hB.out.w1; omega
            have hHw2 : bw ≠ w.heap.size := Ne.symm hHw
            by_cases hnv : 0 ≤ num v
            · have hnv2 : ¬ num v < 0 := by omega
              obtain ⟨t, et⟩ : ∃ t, t = num v := ⟨_, rfl⟩
              rw [← et] at cn hnv hnv2
              have A : Aside (DInv NB sc num ord par K (d + 1) tv tj ∧ DW w.heap.size NB bo bq bw w num (wayV ord K) (wayV par K) (visV ord tv tj (d + 1)) K K (d + 1) wr ∧ j = tj d ∧ gk = 3 * (NB - K) + visits tj (d + 1) ∧ sc (2 * ord (tv d) + tj d) = v ∧ t = num v) := ⟨hinv, hdw, ej, hgk, hsz, et⟩
              clear hinv hdw hgk hD ej ey ht hvd hKN hsz hz he hny et
              go_wp2
              go_quiet (fail)
              go_wp2
              go_roundg (3 * (NB - K) + visits (upd tj d (j + 1)) (d + 1))
              case measure =>
                obtain ⟨_, _, ej, hgk, _⟩ := A.out
                have := visits_skip tj d (by omega)
                rw [ej, hgk]
                omega
              case rel =>
                obtain ⟨hinv, hdw, ej, hgk, hsz, et⟩ := A.out
                refine ⟨K, d + 1, num, ord, par, tv, upd tj d (j + 1), rfl, rfl, rfl, rfl, by rw [ej]; exact hinv.skip (by omega) (fun v' hv' => ⟨by omega, by rw [show v' = v by omega, ← et]; exact hnv⟩), ?_⟩
                rw [← visV_set]
                exact (hdw.drewN nq).setTop hB.out (d * 2 + 1) _
            · have hnv' : num v < 0 := by omega
              have hpush := hinv.push (by omega) hsz hvN hnv'
              have hKN2 := hpush.1
              have hyv : y ≠ v := by intro e; rw [e] at hny; omega
              have hyv2 : v ≠ y := Ne.symm hyv
              obtain ⟨t, et⟩ : ∃ t, t = num v := ⟨_, rfl⟩
              rw [← et] at cn hnv hnv'
              have cy := hdw.rn.cell hyN
              rw [hny] at cy
              obtain ⟨tvd, etvd⟩ : ∃ t, t = tv d := ⟨_, rfl⟩
              rw [← etvd] at cy
              have hyNi : (y : Int) < (NB : Int) := by omega
              have hKi : (K : Int) < (NB : Int) := by omega
              have A : Aside (DInv NB sc num ord par K (d + 1) tv tj ∧ DW w.heap.size NB bo bq bw w num (wayV ord K) (wayV par K) (visV ord tv tj (d + 1)) K K (d + 1) wr ∧ j = tj d ∧ gk = 3 * (NB - K) + visits tj (d + 1) ∧ tvd = tv d ∧
                DInv NB sc (upd num v K) (upd ord K v) (upd par K (tv d)) (K + 1) (d + 1 + 1) (upd tv (d + 1) K) (upd (upd tj d (tj d + 1)) (d + 1) 0)) := ⟨hinv, hdw, ej, hgk, etvd, hpush.2⟩
              clear hinv hdw hgk hD ej ey ht hvd hKN hsz hz he hny et hpush etvd
              obtain ⟨i, hi, hzz⟩ := Option.map_eq_some_iff.1 info21
              simp only [Prod.mk.injEq] at hzz
              obtain ⟨hz0', hz1, hz2⟩ := hzz
              have HI : Hid (Yba.prog.info? 21 = some i ∧ i.size = 1) := ⟨hi, hz1⟩
              clear hi hz0' hz1 hz2
              go_wp2
              go_quiet (fail)
              go_wp2_with (at_builtin; refine wpList_append_fits _ rfl (.tmp 112) (.tmp 114) 57 rfl (w.heap.size + 1) 21 i 1 Yba.underlying57 HI.out.1 HI.out.2 bo K NB (wayV ord K) rfl ?a1 ⟨wr.heap.size, 0, none⟩ 1 1 [.int .i32 (v : Int)] rfl rfl ?a2 ?a3 ?a4 ?a5)
              case a1 =>
                obtain ⟨_, hdw, _⟩ := A.out
                exact ((((hdw.drewN nq).setTop hB.out (d * 2 + 1) (.int .i32 ((j : Int) + 1))).setNum hB.out v K).alloc (.cells #[.int .i32 (v : Int)] 21)).ro
              case a2 =>
                have := cells_one (((wr.drewN nq).setCell ⟨bw, d * 2 + 1, none⟩ (.int .i32 ((j : Int) + 1))).setCell ⟨w.heap.size, v, none⟩ (.int .i32 (K : Int))) 21 (.int .i32 (v : Int))
                simpa [World.setCell] using this
              case a3 =>
                intro u hu
                rw [List.mem_singleton.1 hu]
                rfl
              case a4 => omega
              case a5 =>
              intro w3 hown3 hgrow3
              have D2 : DW w.heap.size NB bo bq bw w (upd num v K) (wayV ord K ++ [.int .i32 (v : Int)]) (wayV par K) ((visV ord tv tj (d + 1)).set (d * 2 + 1) (.int .i32 ((j : Int) + 1))) (K + 1) K (d + 1) w3 := by
                obtain ⟨_, hdw, _⟩ := A.out
                exact ((((hdw.drewN nq).setTop hB.out (d * 2 + 1) (.int .i32 ((j : Int) + 1))).setNum hB.out v K).alloc (.cells #[.int .i32 (v : Int)] 21)).order hB.out hgrow3 hown3
              have cv3 : w3.cell? ⟨bw, d * 2, none⟩ = some (.int .i32 (y : Int)) := by
                rw [D2.rv.cellAt _ (by omega), List.getElem?_set_ne (by omega)]
                have := (A.out).2.1.rv.cellAt (d * 2) (by omega)
                rw [← this]
                exact cv
              have cy3 : w3.cell? ⟨w.heap.size, y, none⟩ = some (.int .i32 (tvd : Int)) := by
                have h1 := D2.rn.cell hyN
                rw [upd_other _ _ hyv] at h1
                have h2 := (A.out).2.1.rn.cell hyN
                rw [cy] at h2
                rw [h1, ← h2]
              have A2 : Aside (DW w.heap.size NB bo bq bw w (upd num v K) (wayV ord K ++ [.int .i32 (v : Int)]) (wayV par K) ((visV ord tv tj (d + 1)).set (d * 2 + 1) (.int .i32 ((j : Int) + 1))) (K + 1) K (d + 1) w3) := D2
              clear D2 hown3 hgrow3 cy cv cj fj cn fn hce
              go_wp2_with (at_builtin; refine wpList_append_fits _ rfl (.tmp 116) (.tmp 124) 57 rfl (w.heap.size + 1) 21 i 1 Yba.underlying57 HI.out.1 HI.out.2 bq K NB (wayV par K) rfl ?b1 ⟨w3.heap.size, 0, none⟩ 1 1 [.int .i32 (tvd : Int)] rfl rfl ?b2 ?b3 ?b4 ?b5)
              case b1 => exact (A2.out.alloc (.cells #[.int .i32 (tvd : Int)] 21)).rq
              case b2 => exact cells_one w3 21 (.int .i32 (tvd : Int))
              case b3 =>
                intro u hu
                rw [List.mem_singleton.1 hu]
                rfl
              case b4 => omega
              case b5 =>
              intro w4 hown4 hgrow4
              have A3 : Aside (DW w.heap.size NB bo bq bw w (upd num v K) (wayV ord K ++ [.int .i32 (v : Int)]) (wayV par K ++ [.int .i32 (tvd : Int)]) ((visV ord tv tj (d + 1)).set (d * 2 + 1) (.int .i32 ((j : Int) + 1))) (K + 1) (K + 1) (d + 1) w4) := (A2.out.alloc _).par hB.out hgrow4 hown4
              have hdK : d + 1 ≤ K := (A.out).1.depth
              clear hown4 hgrow4 cv3 cy3 A2
              obtain ⟨i2, hi, hzz⟩ := Option.map_eq_some_iff.1 info116
              simp only [Prod.mk.injEq] at hzz
              obtain ⟨hz0', hz1, hz2⟩ := hzz
              have HI2 : Hid (Yba.prog.info? 116 = some i2 ∧ i2.size = 2) := ⟨hi, hz1⟩
              clear hi hz0' hz1 hz2
              go_wp2_with (at_builtin; refine wpList_append_fits _ rfl (.tmp 126) (.tmp 129) 114 rfl (w.heap.size + 1) 116 i2 2 Yba.underlying114 HI2.out.1 HI2.out.2 bw (d + 1) NB ((visV ord tv tj (d + 1)).set (d * 2 + 1) (.int .i32 ((j : Int) + 1))) rfl ?d1 ⟨w4.heap.size, 0, none⟩ 1 1 [.int .i32 (v : Int), .int .i32 0] rfl rfl ?d2 ?d3 ?d4 ?d5)
              case d1 => exact (A3.out.alloc (.cells #[.int .i32 (v : Int), .int .i32 0] 116)).rv
              case d2 => exact cells_pair w4 116 (.int .i32 (v : Int)) (.int .i32 0)
              case d3 =>
                intro u hu
                simp at hu
                rcases hu with hu | hu <;> rw [hu] <;> rfl
              case d4 => omega
              case d5 =>
              intro w5 hown5 hgrow5
              have A4 : Aside (DW w.heap.size NB bo bq bw w (upd num v K) (wayV ord K ++ [.int .i32 (v : Int)]) (wayV par K ++ [.int .i32 (tvd : Int)]) (((visV ord tv tj (d + 1)).set (d * 2 + 1) (.int .i32 ((j : Int) + 1))) ++ [.int .i32 (v : Int), .int .i32 0]) (K + 1) (K + 1) (d + 1 + 1) w5) := (A3.out.alloc _).walk hB.out hgrow5 hown5
              clear hown5 hgrow5 A3
              go_wp2
              go_roundg (3 * (NB - (K + 1)) + visits (upd (upd tj d (tj d + 1)) (d + 1) 0) (d + 1 + 1))
              case measure =>
                obtain ⟨_, _, ej, hgk, _⟩ := A.out
                have := visits_push tj d (by omega)
                omega
              case rel =>
                obtain ⟨hinv, hdw, ej, hgk, etvd, hpush⟩ := A.out
                refine ⟨K + 1, d + 1 + 1, upd num v K, upd ord K v, upd par K (tv d), upd tv (d + 1) K, upd (upd tj d (tj d + 1)) (d + 1) 0, rfl, rfl, rfl, rfl, hpush, ?_⟩
                have h4 := A4.out
                rw [etvd, show ((j : Int) + 1) = ((j + 1 : Nat) : Int) by omega, visV_set, ← wayV_push, ← wayV_push] at h4
                have e : visV (upd ord K v) (upd tv (d + 1) K) (upd (upd tj d (tj d + 1)) (d + 1) 0) (d + 1 + 1) = visV ord tv (upd tj d (j + 1)) (d + 1) ++ [.int .i32 (v : Int), .int .i32 0] := by
                  show visV (upd ord K v) (upd tv (d + 1) K) (upd (upd tj d (tj d + 1)) (d + 1) 0) (d + 1) ++ [_, _] = _
                  rw [upd_same, upd_same, upd_same]
                  congr 1
                  refine visV_congr (fun i hi => ?_)
                  rw [upd_other tv _ (by omega), upd_other _ 0 (by omega), upd_other ord _ (by have := (hinv.t i hi).1; omega), ej]
                  exact ⟨rfl, rfl⟩
                rw [e]
                exact h4
end Go.Proofs.Ybulkexnju.W
