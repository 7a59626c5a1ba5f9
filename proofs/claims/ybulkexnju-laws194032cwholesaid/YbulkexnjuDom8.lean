/-
  dominators: w goes into its bucket and is linked; the bucket of its parent is emptied.
-/
import Derived.Test.YbulkexnjuDomF
namespace Go.Proofs.Ybulkexnju.W
open Go.RowKit Go.Proofs.Ybulkexnju.G
set_option linter.unusedVariables false
set_option maxRecDepth 100000

theorem reg51_at {Q : Exit → Act → World → Prop} {l : List Value} {v2 v3 v4 v6 v10 v14 v15 v17 v18 v22 v23 : Value} {K wv sw : Nat} {bv : Int} {c : Nat → Nat} {W : World} {u7 : Value} (hw : (wv : Int) < (K : Int)) (hs : (sw : Int) < (K : Int))
    (x0' : W.cell? ⟨c 0, 0, none⟩ = some (.slice (some ⟨c 3, 0, none⟩) K K)) (r3' : W.cell? ⟨c 3, wv, none⟩ = some (.int .i32 (sw : Int))) (r6' : W.cell? ⟨c 6, sw, none⟩ = some (.int .i32 bv)) (f6' : W.frozen? ⟨c 6, sw, none⟩ = false) (r7' : W.cell? ⟨c 7, wv, none⟩ = some u7) (f7' : W.frozen? ⟨c 7, wv, none⟩ = false) (n76 : c 7 ≠ c 6)
    (hf : l = fr51 (nth l) v2 v3 v4 v6 v10 v14 v15 (.pointer (some ⟨c 0, 0, none⟩)) v17 v18 (.slice (some ⟨c 6, 0, none⟩) K K) (.slice (some ⟨c 7, 0, none⟩) K K) v22 v23 (.int .i32 (wv : Int)) (nth l))
    (hq : ∀ x s, Q .normal ⟨(fr51 x v2 v3 v4 v6 v10 v14 v15 (.pointer (some ⟨c 0, 0, none⟩)) v17 v18 (.slice (some ⟨c 6, 0, none⟩) K K) (.slice (some ⟨c 7, 0, none⟩) K K) v22 v23 (.int .i32 (wv : Int)) s).toArray, []⟩ ((W.drew.setCell ⟨c 7, wv, none⟩ (.int .i32 bv)).setCell ⟨c 6, sw, none⟩ (.int .i32 (wv : Int)))) :
    reg51.wp Yba.prog Q ⟨l.toArray, []⟩ W := by
  rw [hf]
  exact reg51_wp hw hs x0' r3' r6' f6' r7' f7' n76 (fun s => hq (nth l) s)

set_option maxHeartbeats 8000000 in
theorem lt_bucket {NB K : Nat} {sc num : Nat → Int} {ord par tv tj : Nat → Nat} {fst at_ : Nat → Int} {bo bq S T : Nat} {w : World} {L B : Nat} {c s : Nat → Nat} {W0 : World} (C : LC NB K sc num ord par tv tj fst at_ bo bq S T w L B c s W0)
    {Q : Exit → Act → World → Prop} {wv : Nat} (h0 : 0 < wv) (hwK : wv < K) (hnext : ∀ a W, RelL NB K bo bq S T w L B c par s W0 wv (wv - 1) (wv - 1) a W → Q .normal a W) :
    ∀ a W, RelL NB K bo bq S T w L B c par s W0 wv wv (wv - 1) a W → (right 1 C9).wp Yba.prog Q a W := by
  rintro a W ⟨x, sm, label, link, bucket, next, idom, Lb, rfl, hlw, hL, hB, hlo, hhi⟩
  have HC : Aside (LC NB K sc num ord par tv tj fst at_ bo bq S T w L B c s W0) := C
  have HX : Aside (∀ a W, RelL NB K bo bq S T w L B c par s W0 wv (wv - 1) (wv - 1) a W → Q .normal a W) := hnext
  have dg := C.dg.below hlw.bel
  have N := C.bk
  have hKN := dg.inv.kN
  have hnb := C.nb
  have hsw := (C.sem wv h0 hwK).1
  have hpw := dg.inv.dfs.plt wv h0 hwK
  obtain ⟨sw, esw⟩ : ∃ sw, sw = s wv := ⟨_, rfl⟩
  obtain ⟨p, ep⟩ : ∃ p, p = par wv := ⟨_, rfl⟩
  rw [← esw] at hsw
  rw [← ep] at hpw
  have x0 := hlw.rws.x0.cell (i := 0) (by omega)
  have x2 := hlw.rws.x2.cell (i := 0) (by omega)
  have r3 := hlw.rws.r3.cell hwK
  rw [hhi wv (by omega) hwK, ← esw] at r3
  have r6 := hlw.rws.r6.cell (i := sw) (by omega)
  have f6 := hlw.rws.r6.frozen sw
  have r7 := hlw.rws.r7.cell hwK
  have f7 := hlw.rws.r7.frozen wv
  have r5 := hlw.rws.r5.cell hwK
  have f5 := hlw.rws.r5.frozen wv
  obtain ⟨bv, ebv⟩ : ∃ bv, bv = bucket sw := ⟨_, rfl⟩
  rw [← ebv] at r6
  have cq : W.cell? ⟨bq, wv, none⟩ = some (.int .i32 (p : Int)) := by rw [dg.rq.cellAt wv (by omega), wayV_at par hwK, ep]
  have hq6 : bq ≠ c 6 := by have := dg.b2; have := (N.ge 6 (by omega)).1; omega
  have hq7 : bq ≠ c 7 := by have := dg.b2; have := (N.ge 7 (by omega)).1; omega
  have n70 := N.ne 7 0 (by omega) (by omega) (by omega)
  have n73 := N.ne 7 3 (by omega) (by omega) (by omega)
  have n76 := N.ne 7 6 (by omega) (by omega) (by omega)
  have n72 := N.ne 7 2 (by omega) (by omega) (by omega)
  have n75 := N.ne 7 5 (by omega) (by omega) (by omega)
  have n60 := N.ne 6 0 (by omega) (by omega) (by omega)
  have n63 := N.ne 6 3 (by omega) (by omega) (by omega)
  have n62 := N.ne 6 2 (by omega) (by omega) (by omega)
  have n65 := N.ne 6 5 (by omega) (by omega) (by omega)
  have m70 := n70.symm
  have m73 := n73.symm
  have m76 := n76.symm
  have m72 := n72.symm
  have m75 := n75.symm
  have m60 := n60.symm
  have m63 := n63.symm
  have m62 := n62.symm
  have m65 := n65.symm
  have hwi : (wv : Int) < (K : Int) := by omega
  have hswi : (sw : Int) < (K : Int) := by omega
  have hpi : (p : Int) < (K : Int) := by omega
  have A : Aside (LW K L B c W0 sm label link bucket next idom W ∧ LInv K par s wv label link ∧ BInv K par s wv bucket next idom Lb ∧ (∀ x, x ≤ wv - 1 → sm x = x) ∧ (∀ x, wv - 1 < x → x < K → sm x = s x) ∧ sw = s wv ∧ p = par wv ∧ bv = bucket sw) := ⟨hlw, hL, hB, hlo, hhi, esw, ep, ebv⟩
  have hlw1 := ((hlw.drew.setNx N wv bv).setBk N sw wv)
  have hbk : (((W.drew.setCell ⟨c 7, wv, none⟩ (.int .i32 bv)).setCell ⟨c 6, sw, none⟩ (.int .i32 (wv : Int))).setCell ⟨c 5, wv, none⟩ (.int .i32 (p : Int))).cell? ⟨c 6, p, none⟩ = some (.int .i32 (upd bucket sw (wv : Int) p)) := (hlw1.setLk N wv p).rws.r6.cell (i := p) (by omega)
  have y2 := hlw1.rws.x2.cell (i := 0) (by omega)
  have z5 := hlw1.rws.r5.cell hwK
  have g5 := hlw1.rws.r5.frozen wv
  have yq : ((W.drew.setCell ⟨c 7, wv, none⟩ (.int .i32 bv)).setCell ⟨c 6, sw, none⟩ (.int .i32 (wv : Int))).cell? ⟨bq, wv, none⟩ = some (.int .i32 (p : Int)) := cell_other (cell_other cq hq7 _) hq6 _
  obtain ⟨b0, eb0⟩ : ∃ b0, b0 = upd bucket sw (wv : Int) p := ⟨_, rfl⟩
  rw [← eb0] at hbk
  have E0 : Aside (b0 = upd bucket sw (wv : Int) p) := eb0
  unfold frL fr9
  conv => arg 2; whnf
  refine wp_seq_k (fun K1 hK1 => ?_)
  refine reg51_at hwi hswi x0 r3 r6 f6 r7 f7 n76 rfl ?_
  intro x1 s1
  refine hK1 _ _ ?_
  unfold fr51
  generalize ((W.drew.setCell ⟨c 7, wv, none⟩ (.int .i32 bv)).setCell ⟨c 6, sw, none⟩ (.int .i32 (wv : Int))) = W1 at *
  have A1 : Aside (LW K L B c W0 sm label link (upd bucket sw (wv : Int)) (upd next wv bv) idom W1) := hlw1
  clear hK1 hlw hL hB hlo hhi dg C hnext N esw ep ebv eb0 hlw1 x0 x2 r3 r6 f6 r7 f7 r5 f5 cq
  obtain ⟨L', eL'⟩ : ∃ L' : Nat → List Nat, L' = upd Lb sw (wv :: Lb sw) := ⟨_, rfl⟩
  have hput : Aside ((∀ x, x < K → Lst (upd next wv bv) (upd bucket sw (wv : Int) x) (L' x)) ∧ (∀ x, x < K → ∀ v, v ∈ L' x → wv ≤ v ∧ v < K ∧ (v = wv → s wv = x) ∧ (wv < v → Waits par s wv x v)) ∧ (∀ v, wv ≤ v → v < K → v ∈ L' (s v) ∨ Done par s v (idom v))) := by
    obtain ⟨hlw, hL, hB, hlo, hhi, esw, ep, ebv⟩ := A.out
    have := hB.put HC.out.sem h0 hwK
    rw [← esw, ← ebv, ← eL'] at this
    exact ⟨this.1, fun x hx v hv => by obtain ⟨a, b, c, d⟩ := this.2.1 x hx v hv; exact ⟨a, b, fun e => by rw [← esw]; exact c e, d⟩, this.2.2⟩
  have hpK : p < K := by omega
  clear eL'
  go_wp2
  clear hbk y2 z5 g5 yq
  go_loopg [29] (L' p).length (fun gk s29 wr => ∃ (rest : List Nat) (hv : Int) (label link idom' : Nat → Int), rest.length = gk ∧ s29 = .int .i32 hv ∧ Lst (upd next wv bv) hv rest ∧ (∀ v, v ∈ rest → v ∈ L' p) ∧ (∀ v, v ∈ L' p → v ∈ rest ∨ Done par s v (idom' v)) ∧ (∀ v, v ∉ L' p → idom' v = idom v) ∧ LInv K par s (wv - 1) label link ∧ LW K L B c W0 sm label link (upd bucket sw (wv : Int)) (upd next wv bv) idom' wr)
  case atStart =>
    obtain ⟨hlw, hL, hB, hlo, hhi, esw, ep, ebv⟩ := A.out
    have C := HC.out
    have D := C.dg.inv.dfs
    refine ⟨L' p, b0, label, upd link wv p, idom, rfl, rfl, ?_, fun v hv => hv, fun v hv => .inl hv, fun v _ => rfl, ?_, A1.out.setLk C.bk wv p⟩
    · rw [E0.out]; exact (hput.out).1 p hpK
    · rw [ep]; exact hL.linked D h0 hwK
  case round =>
    obtain ⟨rest, hv, lb, lk, idom', rfl, rfl, hlst, hsub, hdone, hkeep, hL, hlw⟩ := hrel
    cases rest with
    | nil =>
      obtain rfl : hv = -1 := hlst
      have r6 := hlw.rws.r6.cell hpK
      have f6 := hlw.rws.r6.frozen p
      have A2 : Aside ((∀ v, v ∈ L' p → Done par s v (idom' v)) ∧ (∀ v, v ∉ L' p → idom' v = idom v) ∧ LInv K par s (wv - 1) lb lk ∧ LW K L B c W0 sm lb lk (upd bucket sw (wv : Int)) (upd next wv bv) idom' wr) := ⟨fun v hv => (hdone v hv).resolve_left (by simp), hkeep, hL, hlw⟩
      clear hsub hdone hkeep hL hlw
      go_wp2
      obtain ⟨hdone, hkeep, hL, hlw⟩ := A2.out
      obtain ⟨hlw0, hL0, hB, hlo, hhi, esw, ep, ebv⟩ := A.out
      obtain ⟨p1, p2, p3⟩ := hput.out
      have C := HC.out
      have D := C.dg.inv.dfs
      refine HX.out _ _ (RelL.mk rfl (hlw.setBk C.bk p (-1)) hL (?_ : BInv K par s (wv - 1) (upd (upd bucket sw (wv : Int)) p (-1)) (upd next wv bv) idom' (upd L' p [])) hlo hhi)
      rw [ep] at hdone hkeep ⊢
      exact BInv.next D p1 p2 p3 h0 hdone hkeep
    | cons v l =>
      obtain ⟨rfl, hlst⟩ := hlst
      obtain ⟨hlw0, hL0, hB, hlo, hhi, esw, ep, ebv⟩ := A.out
      obtain ⟨p1, p2, p3⟩ := hput.out
      have C := HC.out
      have D := C.dg.inv.dfs
      obtain ⟨v1, hvK, v3, v4⟩ := p2 p hpK v (hsub v (by simp))
      have hsv : s v = p := by
        by_cases e : v = wv
        · rw [e]; exact v3 e
        · exact (v4 (by omega)).1
      obtain ⟨pa, pl, pc, xs, hp, ho⟩ := hlw.path
      have HE : Aside _ := eval_any D C.bk.evb hL hhi (by omega) (by omega) hlw.ev hp ho hvK
      have hvi : (v : Int) < (K : Int) := by omega
      have A2 : Aside (Lst (upd next wv bv) (upd next wv bv v) l ∧ (∀ u, u ∈ v :: l → u ∈ L' p) ∧ (∀ u, u ∈ L' p → u ∈ v :: l ∨ Done par s u (idom' u)) ∧ (∀ u, u ∉ L' p → idom' u = idom u) ∧ LW K L B c W0 sm lb lk (upd bucket sw (wv : Int)) (upd next wv bv) idom' wr ∧ s v = p ∧ wv ≤ v ∧ (wv < v → Waits par s wv p v)) := ⟨hlst, hsub, hdone, hkeep, hlw, hsv, v1, v4⟩
      clear hlst hsub hdone hkeep hL hlw hlw0 hL0 hB hlo hhi esw ep ebv p1 p2 p3 C D v1 v3 v4 hsv hp ho
      go_wp2_with (go_at_call 37; refine Calls.mono HE.out ?_; rintro e w' ⟨u, label', link', rfl, hres, hL', hev', hpath', hkx⟩)
      obtain ⟨hlst, hsub, hdone, hkeep, hlw, hsv, v1, v4⟩ := A2.out
      obtain ⟨hlw0, hL0, hB, hlo, hhi, esw, ep, ebv⟩ := A.out
      have hlw' := hlw.after HC.out.bk hev' hpath' hkx
      have D := HC.out.dg.inv.dfs
      have hu : wv - 1 < u ∧ u ≤ v := by
        rcases hres with ⟨h1, _⟩ | ⟨_, h2, h3, _⟩
        · omega
        · exact ⟨h2, h3⟩
      have huK : u < K := by omega
      have htk := D.taken HC.out.sem h0 v1 hvK (by rw [← ep]; exact hsv) (by rw [← ep]; exact v4) hres
      have x0 := hlw'.rws.x0.cell (i := 0) (by omega)
      have ru := hlw'.rws.r3.cell huK
      have rv := hlw'.rws.r3.cell hvK
      rw [hhi u hu.1 huK] at ru
      rw [hhi v (by omega) hvK] at rv
      have r8 := hlw'.rws.r8.cell hvK
      have f8 := hlw'.rws.r8.frozen v
      have r7 := hlw'.rws.r7.cell hvK
      obtain ⟨nv, env⟩ : ∃ nv, nv = upd next wv bv v := ⟨_, rfl⟩
      rw [← env] at r7
      have EN : Aside (nv = upd next wv bv v) := env
      have n78 := HC.out.bk.ne 7 8 (by omega) (by omega) (by omega)
      have m78 := n78.symm
      have hui : (u : Int) < (K : Int) := by omega
      obtain ⟨su, esu⟩ : ∃ su, su = s u := ⟨_, rfl⟩
      obtain ⟨sv, esv⟩ : ∃ sv, sv = s v := ⟨_, rfl⟩
      rw [← esu] at ru htk
      rw [← esv] at rv htk
      have A3 : Aside (LInv K par s (wv - 1) label' link' ∧ LW K L B c W0 sm label' link' (upd bucket sw (wv : Int)) (upd next wv bv) idom' w') := ⟨hL', hlw'⟩
      by_cases hcmp : su < sv
      · rw [if_pos hcmp] at htk
        have hci : (su : Int) < (sv : Int) := by omega
        have DN : Aside (Done par s v (u : Int)) := htk
        clear hlst hsub hdone hkeep hlw hsv v1 v4 hlw0 hL0 hB hlo hhi esw ep ebv hlw' D hu htk esu esv env hres hL' hev' hpath' hkx HE
        go_wp2
        go_quiet (fail)
        go_wp2
        go_roundg l.length
        case measure => simp
        case rel =>
          obtain ⟨hL', hlw'⟩ := A3.out
          obtain ⟨hlst, hsub, hdone, hkeep, _, _, _, _⟩ := A2.out
          have hmem := hsub v (by simp)
          refine ⟨l, nv, label', link', upd idom' v (u : Int), rfl, rfl, by rw [EN.out]; exact hlst, fun y hy => hsub y (by simp [hy]), fun y hy => ?_, fun y hy => ?_, hL', (hlw'.drewN nq).setId HC.out.bk v (u : Int)⟩
          · by_cases e : y = v
            · right; rw [e, upd_same]; exact DN.out
            · rw [upd_ne e]
              rcases hdone y hy with h1 | h1
              · rcases List.mem_cons.1 h1 with h2 | h2
                · exact absurd h2 e
                · exact .inl h2
              · exact .inr h1
          · rw [upd_ne (fun e => hy (by rw [e]; exact hmem))]
            exact hkeep y hy
      · rw [if_neg hcmp] at htk
        have hci : ¬ (su : Int) < (sv : Int) := by omega
        have DN : Aside (Done par s v (p : Int)) := by rw [ep]; exact htk
        clear hlst hsub hdone hkeep hlw hsv v1 v4 hlw0 hL0 hB hlo hhi esw ep ebv hlw' D hu htk esu esv env hres hL' hev' hpath' hkx HE
        go_wp2
        go_quiet (fail)
        go_wp2
        go_roundg l.length
        case measure => simp
        case rel =>
          obtain ⟨hL', hlw'⟩ := A3.out
          obtain ⟨hlst, hsub, hdone, hkeep, _, _, _, _⟩ := A2.out
          have hmem := hsub v (by simp)
          refine ⟨l, nv, label', link', upd idom' v (p : Int), rfl, rfl, by rw [EN.out]; exact hlst, fun y hy => hsub y (by simp [hy]), fun y hy => ?_, fun y hy => ?_, hL', (hlw'.drewN nq).setId HC.out.bk v (p : Int)⟩
          · by_cases e : y = v
            · right; rw [e, upd_same]; exact DN.out
            · rw [upd_ne e]
              rcases hdone y hy with h1 | h1
              · rcases List.mem_cons.1 h1 with h2 | h2
                · exact absurd h2 e
                · exact .inl h2
              · exact .inr h1
          · rw [upd_ne (fun e => hy (by rw [e]; exact hmem))]
            exact hkeep y hy
end Go.Proofs.Ybulkexnju.W
