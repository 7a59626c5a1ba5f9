/-
  dominators: the semidominator of w.
-/
import Derived.Test.YbulkexnjuDom6
namespace Go.Proofs.Ybulkexnju.W
open Go.RowKit Go.Proofs.Ybulkexnju.G
set_option linter.unusedVariables false
set_option maxRecDepth 100000

theorem slice_mid (g lo hi T : Nat) (h1 : lo ≤ hi) (h2 : hi ≤ T) : ∃ (sa : Option Addr) (n m : Nat), n = hi - lo ∧ (∀ W : World, (Instr.slice 57 (.slice (some ⟨g, 0, none⟩) T T) (some (.int .i32 (lo : Int))) (some (.int .i32 (hi : Int))) none).run Yba.prog W = .ok (.slice sa n m) W) ∧ (lo < hi → sa = some ⟨g, lo, none⟩) := by
  have i1 : (lo : Int) ≤ (hi : Int) := by omega
  have i2 : (hi : Int) ≤ (T : Int) := by omega
  by_cases e : T = lo
  · refine ⟨some ⟨g, 0, none⟩, hi - lo, T - lo, rfl, fun W => ?_, fun h => by omega⟩
    subst e
    go_simp
  · refine ⟨some ⟨g, lo, none⟩, hi - lo, T - lo, rfl, fun W => ?_, fun _ => rfl⟩
    go_simp

theorem SInv_weaken {p s : Nat → Nat} {w cur : Nat} {d d' : Nat → Prop} (h : SInv p s w d cur) (hd : ∀ v, d' v → d v) : SInv p s w d' cur :=
  ⟨h.lo, h.hi, fun v hv => h.le v (hd v hv), fun v hv => h.ge v (hd v hv)⟩

set_option maxHeartbeats 8000000 in
theorem lt_semi {NB K : Nat} {sc num : Nat → Int} {ord par tv tj : Nat → Nat} {fst at_ : Nat → Int} {bo bq S T : Nat} {w : World} {L B : Nat} {c s : Nat → Nat} {W0 : World} (C : LC NB K sc num ord par tv tj fst at_ bo bq S T w L B c s W0)
    {Q : Exit → Act → World → Prop} {wv : Nat} (h0 : 0 < wv) (hwK : wv < K) (hnext : ∀ a W, RelL NB K bo bq S T w L B c par s W0 wv wv (wv - 1) a W → (right 1 C9).wp Yba.prog Q a W) :
    ∀ a W, RelL NB K bo bq S T w L B c par s W0 wv wv wv a W → C9.wp Yba.prog Q a W := by
  rintro a W ⟨x, sm, label, link, bucket, next, idom, Lb, rfl, hlw, hL, hB, hlo, hhi⟩
  have HC : Aside (LC NB K sc num ord par tv tj fst at_ bo bq S T w L B c s W0) := C
  have HX : Aside (∀ a W, RelL NB K bo bq S T w L B c par s W0 wv wv (wv - 1) a W → (right 1 C9).wp Yba.prog Q a W) := hnext
  have dg := C.dg.below hlw.bel
  have hKN := dg.inv.kN
  have hnb := C.nb
  have cs1 := dg.rs.cell (i := wv) (by omega)
  have cs2 := dg.rs.cell (i := wv + 1) (by omega)
  rw [dg.grp.fst wv (by omega)] at cs1
  rw [dg.grp.fst (wv + 1) (by omega)] at cs2
  obtain ⟨lo, elo⟩ : ∃ lo, lo = ps (toI sc num) (2 * NB) wv := ⟨_, rfl⟩
  obtain ⟨hi, ehi⟩ : ∃ hi, hi = ps (toI sc num) (2 * NB) (wv + 1) := ⟨_, rfl⟩
  rw [← elo] at cs1
  rw [← ehi] at cs2
  have hlh : lo ≤ hi := by rw [elo, ehi]; exact ps_mono _ _ (by omega)
  have hhT : hi ≤ T := by rw [dg.tT, ehi]; exact ps_mono _ _ (by omega)
  have hTM : T ≤ 2 * NB := by rw [dg.tT]; exact ps_le _ _ _
  have hwi : (wv : Int) < (K : Int) := by omega
  have i1 : (lo : Int) ≤ (hi : Int) := by omega
  have i2 : (hi : Int) ≤ (T : Int) := by omega
  have A : Aside (LW K L B c W0 sm label link bucket next idom W ∧ LInv K par s wv label link ∧ BInv K par s wv bucket next idom Lb ∧ (∀ x, x ≤ wv → sm x = x) ∧ (∀ x, wv < x → x < K → sm x = s x)) := ⟨hlw, hL, hB, hlo, hhi⟩
  have E1 : Aside (lo = ps (toI sc num) (2 * NB) wv ∧ hi = ps (toI sc num) (2 * NB) (wv + 1)) := ⟨elo, ehi⟩
  unfold frL fr9
  conv => arg 2; whnf
  clear hlw hL hB hlo hhi dg C hnext elo ehi
  obtain ⟨sa, n, m, hn, hsl, hsa⟩ := slice_mid (S + 1) lo hi T hlh hhT
  have HSA : Aside (lo < hi → sa = some ⟨S + 1, lo, none⟩) := hsa
  have HN : Aside (n = hi - lo) := hn
  clear hsa hn
  go_wp2
  go_quiet (fail)
  go_wp2
  clear hsl cs1 cs2
  rename_i hK
  have hK' : ∀ a W, RelL NB K bo bq S T w L B c par s W0 wv wv (wv - 1) a W → _ := fun a W h => hK a W (HX.out a W h)
  clear hK
  go_loopg [223] n (fun gk s223 wr => ∃ (i cur : Nat) (label link : Nat → Int), i ≤ n ∧ gk = n - i ∧ s223 = .int .i64 (i : Int) ∧ SInv par s wv (fun v => ∃ q, q < i ∧ num ((at_ (lo + q)).toNat / 2) = (v : Int)) cur ∧ LInv K par s wv label link ∧ LW K L B c W0 (upd sm wv cur) label link bucket next idom wr)
  case atStart =>
    obtain ⟨hlw, hL, hB, hlo, hhi⟩ := A.out
    refine ⟨0, wv, label, link, by omega, by omega, rfl, SInv_weaken (SInv.start HC.out.sem h0 hwK) (fun v hv => by obtain ⟨q, hq, _⟩ := hv; omega), hL, (hlw.drewN nq).sm_congr (fun i hi => ?_)⟩
    by_cases e : i = wv
    · rw [e, upd_same, hlo wv (Nat.le_refl _)]
    · rw [upd_ne e]
  case round =>
    obtain ⟨i, cur, lb, lk, hin, rfl, rfl, hS, hL, hlw⟩ := hrel
    obtain ⟨hlw0, hL0, hB, hlo, hhi⟩ := A.out
    have C := HC.out
    have dg := C.dg.below hlw.bel
    have N := C.bk
    have D := dg.inv.dfs
    by_cases hlt : i < n
    · have hnn := HN.out
      obtain ⟨elo, ehi⟩ := E1.out
      obtain rfl := HSA.out (by omega)
      obtain ⟨j, hj, hkj, haj, hpx⟩ := dg.grp.mem (k := wv) (i := lo + i) (by omega) (by omega)
      obtain ⟨a, haK, hna, hea⟩ := toI_edge dg.inv hj hkj (C.bd j hj).2
      obtain ⟨j2, hj2⟩ : ∃ j2, j2 = j / 2 := ⟨_, rfl⟩
      have hj2i : (j : Int) / 2 = (j2 : Int) := by omega
      have hj2N : j2 < NB := by omega
      have hj2Ni : (j2 : Int) < (NB : Int) := by omega
      have cp := dg.rt.cell (i := lo + i) (by omega)
      rw [haj] at cp
      have cn := dg.rn.cell hj2N
      rw [hj2, hna] at cn
      rw [← hj2] at cn
      obtain ⟨pa, pl, pc, xs, hp, ho⟩ := hlw.path
      have hsm : ∀ x, wv < x → x < K → upd sm wv cur x = s x := fun x h1 h2 => by rw [upd_ne (by omega)]; exact hhi x h1 h2
      have HE : Aside _ := eval_any D N.evb hL hsm (by omega) hwK hlw.ev hp ho haK
      have hii : (i : Int) < (n : Int) := by omega
      have hn8 : n ≤ 8192 := by omega
      have hjn : (j : Int) ≤ 8192 := by omega
      have A2 : Aside (SInv par s wv (fun v => ∃ q, q < i ∧ num ((at_ (lo + q)).toNat / 2) = (v : Int)) cur ∧ LW K L B c W0 (upd sm wv cur) lb lk bucket next idom wr ∧ num (j / 2) = (a : Int) ∧ EN sc ord K a wv ∧ at_ (lo + i) = (j : Int) ∧ (∀ x, wv < x → x < K → upd sm wv cur x = s x)) := ⟨hS, hlw, hna, hea, haj, hsm⟩
      have hcv : cur ≤ wv := hS.hi
      clear hS hL hlw hlw0 hL0 hB hlo hhi C dg N D hna hea haj hkj hj2 elo ehi hsm hp ho hnn hpx
      go_wp2_with (go_at_call 37; refine Calls.mono HE.out ?_; rintro e w' ⟨u, label', link', rfl, hres, hL', hev', hpath', hkx⟩)
      obtain ⟨hS, hlw, hna, hea, haj, hsm⟩ := A2.out
      have hlw' := hlw.after HC.out.bk hev' hpath' hkx
      have D := (HC.out.dg.below hlw'.bel).inv.dfs
      have huK : u < K := by
        rcases hres with ⟨_, rfl⟩ | ⟨_, _, h3, _⟩ <;> omega
      have hsu : upd sm wv cur u = (semiAt s wv cur u : Int) := by
        unfold semiAt
        by_cases c1 : wv < u
        · rw [if_pos c1, hsm u c1 huK]
        · rw [if_neg c1]
          by_cases c2 : u = wv
          · rw [if_pos c2, c2, upd_same]
          · rw [if_neg c2, upd_ne c2]
            exact (A.out).2.2.2.1 u (by omega)
      have hstep := hS.step D HC.out.sem h0 hea hres
      have x0 := hlw'.rws.x0.cell (i := 0) (by omega)
      have r3 := hlw'.rws.r3.cell huK
      have r4 := hlw'.rws.r3.cell hwK
      have f4 := hlw'.rws.r3.frozen wv
      rw [hsu] at r3
      rw [upd_same] at r4
      obtain ⟨su, esu⟩ : ∃ su, su = semiAt s wv cur u := ⟨_, rfl⟩
      rw [← esu] at r3 hstep
      have hui : (u : Int) < (K : Int) := by omega
      have hdone : ∀ v : Nat, (∃ q, q < i + 1 ∧ num ((at_ (lo + q)).toNat / 2) = (v : Int)) → (∃ q, q < i ∧ num ((at_ (lo + q)).toNat / 2) = (v : Int)) ∨ v = a := by
        rintro v ⟨q, hq, hv⟩
        by_cases e : q = i
        · subst e
          right
          rw [haj] at hv
          simp only [Int.toNat_natCast] at hv
          omega
        · exact .inl ⟨q, by omega, hv⟩
      have hS' := SInv_weaken hstep hdone
      by_cases hcmp : su < cur
      · rw [if_pos hcmp] at hS'
        have hci : (su : Int) < (cur : Int) := by omega
        have A3 : Aside (SInv par s wv (fun v => ∃ q, q < i + 1 ∧ num ((at_ (lo + q)).toNat / 2) = (v : Int)) su ∧ LW K L B c W0 (upd sm wv cur) label' link' bucket next idom w' ∧ LInv K par s wv label' link') := ⟨hS', hlw', hL'⟩
        clear hS hlw hlw' hna hea haj hsm D hsu hstep esu hdone hS' hres hL' hev' hpath' hkx A2 HE cp cn
        go_wp2
        go_quiet (fail)
        go_wp2
        go_region
        go_wp2
        go_roundg (n - (i + 1))
        case measure => omega
        case rel =>
          obtain ⟨hS', hlw', hL'⟩ := A3.out
          refine ⟨i + 1, su, label', link', by omega, rfl, by go_num, hS', hL', ?_⟩
          refine (((hlw'.drewN nq).setSm HC.out.bk wv su)).drew.sm_congr (fun q hq => ?_)
          by_cases e : q = wv
          · rw [e, upd_same, upd_same]
          · rw [upd_ne e, upd_ne e, upd_ne e]
      · rw [if_neg hcmp] at hS'
        have hci : ¬ (su : Int) < (cur : Int) := by omega
        have A3 : Aside (SInv par s wv (fun v => ∃ q, q < i + 1 ∧ num ((at_ (lo + q)).toNat / 2) = (v : Int)) cur ∧ LW K L B c W0 (upd sm wv cur) label' link' bucket next idom w' ∧ LInv K par s wv label' link') := ⟨hS', hlw', hL'⟩
        clear hS hlw hlw' hna hea haj hsm D hsu hstep esu hdone hS' hres hL' hev' hpath' hkx A2 HE cp cn
        go_wp2
        go_quiet (fail)
        go_wp2
        go_roundg (n - (i + 1))
        case measure => omega
        case rel =>
          obtain ⟨hS', hlw', hL'⟩ := A3.out
          exact ⟨i + 1, cur, label', link', by omega, rfl, by go_num, hS', hL', hlw'.drewN _⟩
    · have hnn := HN.out
      obtain ⟨elo, ehi⟩ := E1.out
      have hcur : cur = s wv := by
        refine hS.done D C.sem h0 hwK (fun v hv => ?_)
        obtain ⟨e, he1, he2, he3⟩ := toI_all dg.inv hv
        refine ⟨ck (toI sc num) wv e, ?_, ?_⟩
        · have h1 := ck_lt he2 he1
          have h2 : ps (toI sc num) (2 * NB) (wv + 1) = ps (toI sc num) (2 * NB) wv + ck (toI sc num) wv (2 * NB) := rfl
          omega
        · rw [elo, dg.grp.at_ e wv he1 he2]
          simpa using he3
      subst hcur
      have A2 : Aside (LInv K par s wv lb lk ∧ LW K L B c W0 (upd sm wv (s wv)) lb lk bucket next idom wr) := ⟨hL, hlw⟩
      clear hS hL hlw hlw0 hL0 hB hlo hhi C dg N D hnn elo ehi
      go_wp2
      obtain ⟨hL, hlw⟩ := A2.out
      obtain ⟨hlw0, hL0, hB, hlo, hhi⟩ := A.out
      refine RelL.mk rfl hlw hL hB (fun x hx => ?_) (fun x hx hxK => ?_)
      · rw [upd_ne (by omega)]; exact hlo x (by omega)
      · by_cases e : x = wv
        · rw [e, upd_same]
        · rw [upd_ne e]; exact hhi x (by omega) hxK
end Go.Proofs.Ybulkexnju.W
