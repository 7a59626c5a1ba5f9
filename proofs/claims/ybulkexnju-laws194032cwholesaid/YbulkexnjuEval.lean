/-
  eval: the walk.
-/
import Derived.Test.YbulkexnjuEvalA
namespace Go.Proofs.Ybulkexnju.W
open Go.RowKit Go.Proofs.Ybulkexnju.G
set_option linter.unusedVariables false
attribute [local go_sem] Oper.semAt_some

theorem cell_new_l (W : World) (v : Value) (t : TypeId) : (W.alloc (.cells #[v] t)).cell? ⟨W.heap.size, 0, none⟩ = some v ∧ (W.alloc (.cells #[v] t)).frozen? ⟨W.heap.size, 0, none⟩ = false := by
  have h := World.rowIs_alloc W #[v] t (fun _ => v) (fun i hi => by
    have : i = 0 := by simpa using hi
    rw [this]; rfl)
  exact ⟨h.cell (by simp), h.frozen 0⟩
theorem cell_alloc_l {W : World} {a : Addr} {v : Value} (o : Obj) (h : W.cell? a = some v) : (W.alloc o).cell? a = some v := cell_kept h (World.grownBy_alloc W o none) (fun r e => by cases e)

set_option maxRecDepth 100000 in
set_option maxHeartbeats 4000000 in
theorem eval_any {N w : Nat} {E : Nat → Nat → Prop} {p s : Nat → Nat} (D : Dfs N E p) {B bl bp bs bb gl gs gb : Nat} (H : EvB B bl bp bs bb gl gs gb) {sm label link : Nat → Int} (hL : LInv N p s w label link)
    (hsm : ∀ x, w < x → x < N → sm x = s x) (hN : N ≤ 1048576) (hwN : w < N) {W : World} (h : Ev N B bl bp bs bb gl gs gb sm label link W) {pa : Option Addr} {pl pc : Nat} {xs : List Value}
    (hp : W.cell? ⟨bp, 0, none⟩ = some (.slice pa pl pc)) (ho : W.ownsRow B 21 1 (.slice pa pl pc) pl xs) {v : Nat} (hv : v < N) :
    Calls Yba.prog 37 #[.int .i32 (v : Int), .pointer (some ⟨bl, 0, none⟩), .pointer (some ⟨bp, 0, none⟩), .pointer (some ⟨bs, 0, none⟩), .pointer (some ⟨bb, 0, none⟩)] W fun e W' =>
      ∃ (u : Nat) (label' link' : Nat → Int), e = .returned (.int .i32 (u : Int)) ∧ EvalRes p s w v u ∧ LInv N p s w label' link' ∧ Ev N B bl bp bs bb gl gs gb sm label' link' W' ∧
        (∃ pa pl pc xs, W'.cell? ⟨bp, 0, none⟩ = some (.slice pa pl pc) ∧ W'.ownsRow B 21 1 (.slice pa pl pc) pl xs) ∧ Kx B (EvX bp gl gb) W W' := by
  refine (callsIn_wide (n := 5)).1 ?_
  refine callsIn_of_wp_marks Yba.func37 rfl trivial ?_ rfl
  rw [wpIn_wide]
  simp only [Yba.ntmps37, List.size_toArray, List.length_cons, List.length_nil, Nat.reduceAdd, Nat.reduceSub, Array.replicate_succ, Array.replicate_zero, List.push_toArray, List.append_toArray, List.nil_append, List.cons_append]
  have c1 := h.cl
  have r1 := h.rl.cell hv
  have hvi : (v : Int) < (N : Int) := by omega
  by_cases hvw : v ≤ w
  · have e := (hL.lo v hvw hv).1
    rw [e] at r1
    have A : Aside (Ev N B bl bp bs bb gl gs gb sm label link W ∧ LInv N p s w label link ∧ W.ownsRow B 21 1 (.slice pa pl pc) pl xs ∧ v ≤ w) := ⟨h, hL, ho, hvw⟩
    clear h hL ho hvw e hsm D H
    go_wp2
    refine ⟨_, results_tmp rfl _ _ _, ?_⟩
    obtain ⟨h, hL, ho, hvw⟩ := A.out
    exact ⟨v, label, link, rfl, .inl ⟨hvw, rfl⟩, hL, h, ⟨pa, pl, pc, xs, hp, ho⟩, Kx.refl _ _ _⟩
  · obtain ⟨a0, l0, e1, e2, _, h4, _⟩ := hL.hi v (by omega) hv
    rw [e1] at r1
    have hpn : pa = none → pc = 0 := by
      intro e
      subst e
      obtain ⟨_, ⟨h1, _⟩ | ⟨g, cap, cur, h1, _⟩⟩ := ho
      · injection h1
      · injection h1 with e; cases e
    have hsl := slice_zero pa pl pc hpn
    have fp := h.fp
    have A : Aside (Ev N B bl bp bs bb gl gs gb sm label link W ∧ LInv N p s w label link ∧ W.ownsRow B 21 1 (.slice pa pl pc) pl xs ∧ w < v ∧ Dfs N E p ∧ EvB B bl bp bs bb gl gs gb ∧ (∀ x, w < x → x < N → sm x = s x) ∧ w < N) := ⟨h, hL, ho, by omega, D, H, hsm, hwN⟩
    clear h hL ho hvw hsm D H e1 e2 hpn hwN h4
    go_wp2
    go_loopg [7] v (fun gk s7 wr => ∃ (q : Nat → Nat) (k u : Nat) (pa : Option Addr) (pc : Nat), u = gk ∧ s7 = .int .i32 (u : Int) ∧ q 0 = v ∧ q k = u ∧ u + k ≤ v ∧ G.Way N w link q k ∧ Ev N B bl bp bs bb gl gs gb sm label link wr ∧
      wr.cell? ⟨bp, 0, none⟩ = some (.slice pa k pc) ∧ wr.ownsRow B 21 1 (.slice pa k pc) k (wayV q k) ∧ Kx B (EvX bp gl gb) W wr)
    case atStart =>
      obtain ⟨h, hL, ho, hvw, D, H, hsm, hwN⟩ := A.out
      refine ⟨fun _ => v, 0, v, pa, pc, rfl, rfl, rfl, rfl, by omega, G.Way.start hvw hv, h.path H _, ?_, ?_, (Kx.refl _ _ _).setCell (.inr (.inl rfl)) _⟩
      · exact World.cell?_setCell_same' _ _ _ (by rw [hp]; rfl)
      · have := H.a2
        exact ownsRow_setCell_below (ownsRow_cut ho) (by simpa using this) _
    case round =>
      obtain ⟨q, k, u, pa, pc, rfl, rfl, hq0, hqk, huk, hway, h', hp', ho', hk'⟩ := hrel
      obtain ⟨h0, hL, _, hvw, D, H, hsm, hwN⟩ := A.out
      obtain ⟨hwu, huN⟩ := hway.bd k (Nat.le_refl _)
      rw [hqk] at hwu huN
      obtain ⟨a1, l1, x1, x2, _, x4, _⟩ := hL.hi u hwu huN
      have c2 := h'.cl
      have r2 := h'.rl.cell huN
      rw [x1] at r2
      have haN : a1 < N := by omega
      have r3 := h'.rl.cell haN
      have hui : (u : Int) < (N : Int) := by omega
      have hai : (a1 : Int) < (N : Int) := by omega
      clear c1 r1 hp hsl fp
      by_cases haw : a1 ≤ w
      · have x5 := (hL.lo a1 haw haN).1
        rw [x5] at r3
        have A2 : Aside (Ev N B bl bp bs bb gl gs gb sm label link wr ∧ LInv N p s w label link ∧ q 0 = v ∧ q k = u ∧ G.Way N w link q k ∧ wr.ownsRow B 21 1 (.slice pa k pc) k (wayV q k) ∧ Kx B (EvX bp gl gb) W wr ∧ Dfs N E p ∧ EvB B bl bp bs bb gl gs gb ∧ (∀ x, w < x → x < N → sm x = s x) ∧ link u = a1 ∧ a1 ≤ w ∧ u + k ≤ v) := ⟨h', hL, hq0, hqk, hway, ho', hk', D, H, hsm, x1, haw, huk⟩
        clear h' hL hq0 hqk hway ho' hk' D H hsm x1 haw A x5 h0 hwN x2 x4 huk
        go_wp2
        go_quiet (fail)
        go_wp2_with (go_at_call 38; refine (callsIn_wide.1 (backward_in Fence.wide 1 trivial rfl pa k pc _)).mono ?_; rintro e w' ⟨rfl, rfl⟩)
        obtain ⟨gp, hgp⟩ : ∃ gp : Nat, (Value.slice pa k pc = .slice none 0 0 ∧ k = 0) ∨ Value.slice pa k pc = .slice (some ⟨gp, 0, none⟩) k pc := by
          obtain ⟨_, _, _, _, _, ho', _⟩ := A2.out
          obtain ⟨_, ⟨h1, h2⟩ | ⟨g, cap, cur, h1, _⟩⟩ := ho'
          · exact ⟨0, .inl ⟨h1, h2⟩⟩
          · injection h1 with e1 e2 e3
            exact ⟨g, .inr (by rw [e1])⟩
        have hBs : B ≤ wr.heap.size := (A2.out).1.big
        refine wpIn_back9 (n := 5) (by decide) (by decide) (Bs := wr.heap.size) (gp := gp) (k := k) (cap := pc) (by obtain ⟨_, _, _, _, _, _, _, _, _, _, _, _, huk⟩ := A2.out; omega) (fun j => (q j : Int)) hgp rfl
          (fun t W' => t ≤ k ∧ ∃ label' link', Pass N p s w label' link' q k (k - t) a1 ∧ Ev N B bl bp bs bb gl gs gb sm label' link' W' ∧ W'.cell? ⟨wr.heap.size, 0, none⟩ = some (.slice pa k pc) ∧ W'.cell? ⟨bp, 0, none⟩ = some (.slice pa k pc) ∧ W'.ownsRow B 21 1 (.slice pa k pc) k (wayV q k) ∧ Kx B (EvX bp gl gb) W W')
          ?own ?reads ?start ?assign ?body ?done
        case own =>
          rintro t X Y row ⟨h1, lb, lk, h2, h3, h4, h5, h6, h7⟩ hg hr
          obtain ⟨_, _, _, _, _, _, _, _, H, _⟩ := A2.out
          have hrB : ∀ r, row = some r → B ≤ r := fun r e => by have := (hr r e).1; simp at this; omega
          refine ⟨h1, lb, lk, h2, h3.grown H hg hrB, cell_kept h4 hg (fun r e => (hr r e).2), cell_kept h5 hg (fun r e => (hr r e).2), ?_, h7.grown hg h3.big (fun r e => .inl (hrB r e))⟩
          refine h6.kept hg ?_
          cases hob : (Value.slice pa k pc).ownBlock with
          | none => exact .inl rfl
          | some g =>
            refine .inr (fun e => ?_)
            obtain ⟨o, ho, hoc⟩ := (hr g e.symm).2
            obtain ⟨_, ⟨h8, _⟩ | ⟨g', cap, cur, h8, _, h9, _⟩⟩ := h6
            · rw [h8] at hob; cases hob
            · rw [h8] at hob
              injection hob with hob
              subst hob
              rw [show (⟨g', 0, none⟩ : Addr).block = g' from rfl] at ho
              rw [h9] at ho
              cases ho
              cases hoc
        case reads =>
          rintro t X ⟨_, lb, lk, _, _, h4, _, h6, _⟩
          refine ⟨h4, fun j hj => ?_⟩
          rcases hgp with ⟨_, e⟩ | e
          · omega
          · rw [e] at h6
            rw [h6.cellAt j (by omega), wayV_at q hj]
        case start =>
          obtain ⟨h', hL, hq0, hqk, hway, ho', hk', D, H, hsm, x1, haw, huk⟩ := A2.out
          refine ⟨Nat.zero_le _, label, link, Pass.start hway hL (by rw [hqk]; exact x1) haw, (h'.drewN _).alloc H _, (cell_new_l (wr.drewN nq) _ _).1, ?_, ?_, (hk'.drewN _).alloc hBs _⟩
          · exact cell_alloc_l _ hp'
          · exact World.ownsRow.alloc (w := wr.drewN nq) ho' _
        case assign =>
          intro l t X K hK
          simp only [List.setIfInBounds_toArray, List.set_cons_succ, List.set_cons_zero] at hK ⊢
          gi_wp2
          exact hK
        case body =>
          rintro l t X htk ⟨_, lb, lk, h2, h3, h4, h5, h6, h7⟩
          obtain ⟨i, hi⟩ : ∃ i, i = k - 1 - t := ⟨_, rfl⟩
          rw [show k - t = i + 1 by omega] at h2
          rw [← hi]
          have hik : i < k := by omega
          obtain ⟨h', hL, hq0, hqk, hway, ho', hk', D, H, hsm, x1, haw, huk⟩ := A2.out
          obtain ⟨hui1, hui2⟩ := h2.bd i (by omega)
          obtain ⟨hai1, hai2⟩ := h2.bd (i + 1) (by omega)
          have hne : q (i + 1) < q i := h2.lt i (i + 1) (by omega) (by omega)
          obtain ⟨la, ela, la1, la2⟩ := h2.labels (j := i + 1) (by omega)
          obtain ⟨lu, elu, lu1, lu2⟩ := h2.labels (j := i) (by omega)
          have c1 := h3.cl
          have c3 := h3.cb
          have c4 := h3.cs
          have r1 := h3.rl.cell hui2
          have r2 := h3.rl.cell hai2
          have r3 := h3.rb.cell hui2
          have r4 := h3.rb.cell hai2
          have r5 := h3.rs.cell la2
          have r6 := h3.rs.cell lu2
          have f1 := h3.rl.frozen (q i)
          have f3 := h3.rb.frozen (q i)
          have elk := h2.lnk i (by omega)
          have etop := h2.top
          rw [elk] at r1
          rw [etop] at r2
          rw [elu] at r3
          rw [ela] at r4
          rw [hsm la la1 la2] at r5
          rw [hsm lu lu1 lu2] at r6
          have hstep := h2.step D ela elu
          have hgb : gb ≠ gl := Ne.symm H.l5
          have hbl := H.b1
          have i1 : (q i : Int) < (N : Int) := by omega
          have i2 : (q (i + 1) : Int) < (N : Int) := by omega
          have i3 : (la : Int) < (N : Int) := by omega
          have i4 : (lu : Int) < (N : Int) := by omega
          have hgl := H.l1
          by_cases hlt : s la < s lu
          · rw [if_pos hlt] at hstep
            have hlti : (s la : Int) < (s lu : Int) := by omega
            have A4 : Aside (Pass N p s w (upd lb (q i) la) (upd lk (q i) a1) q k i a1 ∧ Ev N B bl bp bs bb gl gs gb sm lb lk X ∧ X.cell? ⟨wr.heap.size, 0, none⟩ = some (.slice pa k pc) ∧ X.cell? ⟨bp, 0, none⟩ = some (.slice pa k pc) ∧ X.ownsRow B 21 1 (.slice pa k pc) k (wayV q k) ∧ Kx B (EvX bp gl gb) W X ∧ EvB B bl bp bs bb gl gs gb ∧ i = k - 1 - t ∧ t < k) := ⟨hstep, h3, h4, h5, h6, h7, H, hi, htk⟩
            obtain ⟨u, eu⟩ : ∃ u, u = q i := ⟨_, rfl⟩
            obtain ⟨a, ea⟩ : ∃ a, a = q (i + 1) := ⟨_, rfl⟩
            obtain ⟨sl, esl⟩ : ∃ a, a = s la := ⟨_, rfl⟩
            obtain ⟨su, esu⟩ : ∃ a, a = s lu := ⟨_, rfl⟩
            rw [← esl] at hlti r5
            rw [← esu] at hlti r6
            rw [← eu] at i1 r1 r3 f1 f3 A4 ⊢
            rw [← ea] at i2 r1 r2 r4
            have E4 : Aside (u = q i) := eu
            clear h2 h3 h4 h5 h6 h7 hstep h' hL hq0 hqk hway ho' hk' D H hsm x1 haw huk hui1 hui2 hai1 hai2 hne ela la1 la2 elu lu1 lu2 elk etop hlt hi hik htk eu ea esl esu
            simp only [List.setIfInBounds_toArray, List.set_cons_succ, List.set_cons_zero]
            gi_wp2
            refine round_quiet (by kernel_rfl) (by kernel_rfl) (by kernel_rfl) (by rintro ⟨_, _, hq⟩; rcases hq with ⟨hq, _⟩; cases hq) ?_
            repeat (go_big_quiet_step (fail))
            refine wpQuiet_nil ?_
            intro _ hw'
            obtain ⟨nq2, hw''⟩ := hw'
            subst hw''
            gi_wp2
            refine round_tail 6 (by kernel_rfl) (by kernel_rfl) (by kernel_rfl) (by rintro ⟨_, _, hq⟩; rcases hq with ⟨hq, _⟩; cases hq) ?_
            simp only [List.take_succ_cons, List.take_zero, List.drop_succ_cons, List.drop_zero]
            repeat still_step
            try refine wpStill_nil ?_
            go_wp2
            gi_wp2
            have hgb2 : gl ≠ gb := Ne.symm hgb
            have hbl2 : bl ≠ gb := Ne.symm hbl
            refine round_tail 6 (by kernel_rfl) (by kernel_rfl) (by kernel_rfl) (by rintro ⟨_, _, hq⟩; rcases hq with ⟨hq, _⟩; cases hq) ?_
            simp only [List.take_succ_cons, List.take_zero, List.drop_succ_cons, List.drop_zero]
            repeat still_step
            try refine wpStill_nil ?_
            go_wp2
            obtain ⟨hstep, h3, h4, h5, h6, h7, H, hi, htk⟩ := A4.out
            have eu := E4.out
            have hB1 := H.a5
            have hB2 := H.a7
            refine ⟨(((⟨Nat.le_refl _, fun _ _ h _ => h⟩ : KeepsOthers X (X.drewN (nq2 + 1))).trans (KeepsOthers.setCell _ _ _)).trans (KeepsOthers.setCell _ _ _)).trans (KeepsOthers.drew _) |>.from _, by omega, upd lb u la, upd lk u a1, ?_, ?_, ?_, ?_, ?_, ?_⟩
            · rw [show k - (t + 1) = i by omega]; exact hstep
            · exact (((h3.drewN _).setLabel H u la).setLink H u a1).drew
            · exact cell_other (cell_other h4 (by show wr.heap.size ≠ gb; omega) _) (by show wr.heap.size ≠ gl; omega) _
            · exact cell_other (cell_other h5 H.p6 _) H.p4 _
            · exact ownsRow_setCell_below (ownsRow_setCell_below (w := X.drewN (nq2 + 1)) h6 (by exact hB2) _) (by exact hB1) _
            · exact (((h7.drewN _).setCell (.inr (.inr (.inr rfl))) _).setCell (.inr (.inr (.inl rfl))) _).drew
          · rw [if_neg hlt] at hstep
            have hlti : ¬ (s la : Int) < (s lu : Int) := by omega
            have hlti2 : (s lu : Int) ≤ (s la : Int) := by omega
            have A4 : Aside (Pass N p s w lb (upd lk (q i) a1) q k i a1 ∧ Ev N B bl bp bs bb gl gs gb sm lb lk X ∧ X.cell? ⟨wr.heap.size, 0, none⟩ = some (.slice pa k pc) ∧ X.cell? ⟨bp, 0, none⟩ = some (.slice pa k pc) ∧ X.ownsRow B 21 1 (.slice pa k pc) k (wayV q k) ∧ Kx B (EvX bp gl gb) W X ∧ EvB B bl bp bs bb gl gs gb ∧ i = k - 1 - t ∧ t < k) := ⟨hstep, h3, h4, h5, h6, h7, H, hi, htk⟩
            obtain ⟨u, eu⟩ : ∃ u, u = q i := ⟨_, rfl⟩
            obtain ⟨a, ea⟩ : ∃ a, a = q (i + 1) := ⟨_, rfl⟩
            obtain ⟨sl, esl⟩ : ∃ a, a = s la := ⟨_, rfl⟩
            obtain ⟨su, esu⟩ : ∃ a, a = s lu := ⟨_, rfl⟩
            rw [← esl] at hlti hlti2 r5
            rw [← esu] at hlti hlti2 r6
            rw [← eu] at i1 r1 r3 f1 f3 A4 ⊢
            rw [← ea] at i2 r1 r2 r4
            have E4 : Aside (u = q i) := eu
            clear h2 h3 h4 h5 h6 h7 hstep h' hL hq0 hqk hway ho' hk' D H hsm x1 haw huk hui1 hui2 hai1 hai2 hne ela la1 la2 elu lu1 lu2 elk etop hlt hi hik htk eu ea esl esu
            simp only [List.setIfInBounds_toArray, List.set_cons_succ, List.set_cons_zero]
            gi_wp2
            refine round_quiet (by kernel_rfl) (by kernel_rfl) (by kernel_rfl) (by rintro ⟨_, _, hq⟩; rcases hq with ⟨hq, _⟩; cases hq) ?_
            repeat (go_big_quiet_step (fail))
            refine wpQuiet_nil ?_
            intro _ hw'
            obtain ⟨nq2, hw''⟩ := hw'
            subst hw''
            gi_wp2
            refine round_tail 6 (by kernel_rfl) (by kernel_rfl) (by kernel_rfl) (by rintro ⟨_, _, hq⟩; rcases hq with ⟨hq, _⟩; cases hq) ?_
            simp only [List.take_succ_cons, List.take_zero, List.drop_succ_cons, List.drop_zero]
            repeat still_step
            try refine wpStill_nil ?_
            go_wp2
            obtain ⟨hstep, h3, h4, h5, h6, h7, H, hi, htk⟩ := A4.out
            have eu := E4.out
            have hB1 := H.a5
            refine ⟨(((⟨Nat.le_refl _, fun _ _ h _ => h⟩ : KeepsOthers X (X.drewN (nq2 + 1))).trans (KeepsOthers.setCell _ _ _))).from _, by omega, lb, upd lk u a1, ?_, ?_, ?_, ?_, ?_, ?_⟩
            · rw [show k - (t + 1) = i by omega]; exact hstep
            · exact ((h3.drewN _).setLink H u a1)
            · exact cell_other h4 (by show wr.heap.size ≠ gl; omega) _
            · exact cell_other h5 H.p4 _
            · exact ownsRow_setCell_below (w := X.drewN (nq2 + 1)) h6 (by exact hB1) _
            · exact (h7.drewN _).setCell (.inr (.inr (.inl rfl))) _
        case done =>
          rintro Dn X hDn ⟨_, lb, lk, h2, h3, h4, h5, h6, h7⟩ hK
          rw [Nat.sub_self] at h2
          obtain ⟨u1, y1, y2⟩ := h2.done
          obtain ⟨h', hL, hq0, hqk, hway, ho', hk', D, H, hsm, x1, haw, huk⟩ := A2.out
          have hq0N := (hway.bd 0 (Nat.zero_le _)).2
          rw [hq0] at y1 y2
          have c3 := h3.cb
          have r5 := h3.rb.cell hv
          rw [y1] at r5
          have hDB : B ≤ Dn := by simp at hDn; omega
          have A3 : Aside (Ev N B bl bp bs bb gl gs gb sm lb lk X ∧ LInv N p s w lb lk ∧ X.cell? ⟨bp, 0, none⟩ = some (.slice pa k pc) ∧ X.ownsRow B 21 1 (.slice pa k pc) k (wayV q k) ∧ Kx B (EvX bp gl gb) W X ∧ X.heap[Dn]? = some (.deferred (some [])) ∧ EvalRes p s w v u1 ∧ EvB B bl bp bs bb gl gs gb) := ⟨h3, h2.inv, h5, h6, h7, hK, y2, H⟩
          clear h2 h3 h4 h5 h6 h7 h' hL hq0 hqk hway ho' hk' D H hsm x1 haw huk y1 y2 hq0N
          go_wp2
          refine ⟨by simp, .inl ⟨_, _, rfl, run_takeDeferred hK, _, results_tmp rfl _ _ _, ?_⟩⟩
          obtain ⟨h3, h2, h5, h6, h7, hK, y2, H⟩ := A3.out
          refine ⟨u1, lb, lk, rfl, y2, h2, h3.of_blocks H (fun i hi => World.putObj_heap_other (by omega)) (by simpa using h3.big), ⟨pa, k, pc, _, ?_, ownsRow_putObj h6 _ hK rfl⟩, h7.grown (grownBy_putObj' _ _ _) h3.big (fun i e => .inl (by injection e; omega))⟩
          exact cell_kept h5 (grownBy_putObj' _ _ _) (fun r e => by cases e; exact ⟨_, hK, rfl⟩)
      · obtain ⟨r1, l2, y1, y2, _, y4, _⟩ := hL.hi a1 (by omega) haN
        rw [y1] at r3
        have hr0 : ¬ (r1 : Int) < 0 := by omega
        have fp2 := h'.fp
        have A2 : Aside (Ev N B bl bp bs bb gl gs gb sm label link wr ∧ LInv N p s w label link ∧ q 0 = v ∧ q k = u ∧ G.Way N w link q k ∧ wr.ownsRow B 21 1 (.slice pa k pc) k (wayV q k) ∧ Kx B (EvX bp gl gb) W wr ∧ EvB B bl bp bs bb gl gs gb ∧ link u = a1 ∧ w < a1 ∧ u + k ≤ v ∧ a1 < u) := ⟨h', hL, hq0, hqk, hway, ho', hk', H, x1, by omega, huk, x4⟩
        have hkN : k < N := by omega
        obtain ⟨i, hi, hzz⟩ := Option.map_eq_some_iff.1 info21
        simp only [Prod.mk.injEq] at hzz
        obtain ⟨hz0, hz1, hz2⟩ := hzz
        have HI : Hid (Yba.prog.info? 21 = some i ∧ i.zero = some (.int .i32 0) ∧ i.size = 1 ∧ i.bytes = 4) := ⟨hi, hz0, hz1, hz2⟩
        clear h' hL hq0 hqk hway ho' hk' D H hsm x1 haw A h0 hwN x2 x4 huk hi hz0 hz1 hz2
        go_wp2
        go_quiet (fail)
        go_wp2_with (at_builtin; refine wpList_append_lies _ rfl (.tmp 32) (.tmp 34) 57 rfl B 21 i (.int .i32 0) 1 4 Yba.underlying57 HI.out.1 HI.out.2.1 HI.out.2.2.1 HI.out.2.2.2 rfl (by decide) (.slice pa k pc) k (wayV q k) rfl ?a1 ⟨wr.heap.size, 0, none⟩ 1 1 [.int .i32 (u : Int)] rfl rfl ?a2 ?a3 (by decide) ?a4 ?a5 ?a6 _ rfl ?a7)
        case a1 =>
          obtain ⟨_, _, _, _, _, ho', _⟩ := A2.out
          exact World.ownsRow.alloc (w := wr.drewN nq) ho' _
        case a2 =>
          intro j x hj
          rcases j with _ | j
          · injection hj with hj
            subst hj
            exact (cell_new_l (wr.drewN nq) _ _).1
          · simp at hj
        case a3 =>
          intro x hx
          rw [List.mem_singleton.1 hx]
          rfl
        case a4 => unfold maxLen; omega
        case a5 => omega
        case a6 =>
          have := (A2.out).1.big
          simp
          omega
        case a7 =>
        intro g3 cap3 w3 hown3 hgrow3 hat3 hlt3
        have hg3 : B ≤ g3 := (hown3.lt g3 rfl).1
        have A3 : Aside (w3.ownsRow B 21 1 (.slice (some ⟨g3, 0, none⟩) (k + 1) cap3) (k + 1) (wayV q k ++ [.int .i32 (u : Int)]) ∧ ((wr.drewN nq).alloc (.cells #[.int .i32 (u : Int)] 21)).grownBy w3 (Value.slice pa k pc).ownBlock ∧ B ≤ g3) := ⟨hown3, hgrow3, hg3⟩
        have hrB : ∀ r, (Value.slice pa k pc).ownBlock = some r → B ≤ r := fun r e => by
          obtain ⟨_, _, _, _, _, ho', _⟩ := A2.out
          exact (ho'.lt r e).1
        have hev3 : Ev N B bl bp bs bb gl gs gb sm label link w3 := by
          obtain ⟨h', _, _, _, _, _, _, H, _⟩ := A2.out
          exact ((h'.drewN nq).alloc H _).grown H hgrow3 hrB
        have hcp3 : w3.cell? ⟨bp, 0, none⟩ = some (.slice pa k pc) := by
          obtain ⟨h', _, _, _, _, _, _, H, _⟩ := A2.out
          have h1 := H.a2
          have h2 := h'.big
          refine hgrow3.cell (cell_alloc_l (W := wr.drewN nq) _ hp') (fun e => ?_)
          have := hrB _ e.symm
          simp at this
          omega
        have c5 := hev3.cl
        have hpl : bp ≠ bl := by
          obtain ⟨_, _, _, _, _, _, _, H, _⟩ := A2.out
          exact H.p1
        have hpg : bp ≠ gl := by
          obtain ⟨_, _, _, _, _, _, _, H, _⟩ := A2.out
          exact H.p4
        have hpl2 : bl ≠ bp := Ne.symm hpl
        have hpg2 : gl ≠ bp := Ne.symm hpg
        have r6 : w3.cell? ⟨gl, u, none⟩ = some (.int .i32 (a1 : Int)) := by
          obtain ⟨_, _, _, _, _, _, _, _, x1, _⟩ := A2.out
          have := hev3.rl.cell huN
          rw [x1] at this
          exact this
        have fp3 := hev3.fp
        have A5 : Aside (Ev N B bl bp bs bb gl gs gb sm label link w3 ∧ (∀ r, (Value.slice pa k pc).ownBlock = some r → B ≤ r)) := ⟨hev3, hrB⟩
        clear hev3 hrB hown3 hgrow3 hat3 hlt3 hg3
        go_wp2
        go_roundg a1
        case measure =>
          obtain ⟨_, _, _, _, _, _, _, _, _, _, _, x4⟩ := A2.out
          omega
        case rel =>
          obtain ⟨h', hL, hq0, hqk, hway, ho', hk', H, x1, hwa, huk, x4⟩ := A2.out
          obtain ⟨hown3, hgrow3, hg3⟩ := A3.out
          obtain ⟨hev3, hrB⟩ := A5.out
          have h1 := H.a2
          refine ⟨upd q (k + 1) a1, k + 1, a1, some ⟨g3, 0, none⟩, cap3, rfl, rfl, by rw [upd_other _ _ (by omega)]; exact hq0, upd_same _ _ _, by omega, hway.snoc hL (by rw [hqk]; exact x1) hwa, hev3.path H _, ?_, ?_, ?_⟩
          · exact World.cell?_setCell_same' _ _ _ (by rw [hcp3]; rfl)
          · rw [wayV_snoc, hqk]
            exact ownsRow_setCell_below hown3 (by exact h1) _
          · exact (((hk'.drewN nq).alloc h'.big _).grown hgrow3 (by have := h'.big; simp; omega) (fun r e => .inl (hrB r e))).setCell (.inr (.inl rfl)) _
end Go.Proofs.Ybulkexnju.W
