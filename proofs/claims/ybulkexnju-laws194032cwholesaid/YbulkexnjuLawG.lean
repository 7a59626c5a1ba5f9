/-
  The law: what one instruction covers.
-/
import Derived.Test.YbulkexnjuLawF
namespace Go.Proofs.Ybulkexnju.W
open Go.RowKit Go.Proofs.Ybulkexnju.G
set_option linter.unusedVariables false
set_option maxRecDepth 100000

set_option maxHeartbeats 32000000 in
theorem cover_inner {q : CC} (hq : q.Ok) {j : Nat} (hlt : j < q.d.n) (hsg : q.d.sg j = true) {Q : Exit → Act → World → Prop} (hnext : ∀ a W, RelC q j (j + 1) a W → Q .normal a W) :
    ∀ a W, RelC q j j a W → (right 1 BL).wp Yba.prog Q a W := by
  rintro a W ⟨x, cov, rfl, hbel, hrow, hcov⟩
  have hn4 := hq.ok.n4
  have hj4 : (j : Int) < (q.d.n : Int) := by omega
  have HQ : Aside q.Ok := hq
  have HX : Aside (∀ a W, RelC q j (j + 1) a W → Q .normal a W) := hnext
  have HSG : Aside (q.d.sg j = true) := hsg
  obtain ⟨n, en⟩ : ∃ n, n = q.d.n := ⟨_, rfl⟩
  obtain ⟨H, eH⟩ : ∃ H, H = q.d.H := ⟨_, rfl⟩
  obtain ⟨m5, hm5⟩ : ∃ m5, m5 = 5 * q.d.n := ⟨_, rfl⟩
  obtain ⟨Su, eSu⟩ : ∃ Su, Su = q.W7.heap.size := ⟨_, rfl⟩
  obtain ⟨Cv, eCv⟩ : ∃ Cv, Cv = q.W8.heap.size := ⟨_, rfl⟩
  have E : Aside (n = q.d.n ∧ H = q.d.H ∧ m5 = 5 * q.d.n ∧ Su = q.W7.heap.size ∧ Cv = q.W8.heap.size) := ⟨en, eH, hm5, eSu, eCv⟩
  have HR : Aside (Calls Yba.prog 12 #[.int .i64 (n : Int), .slice (some ⟨Su, 0, none⟩) n n, .int .i64 (j : Int)] W _) := reach_any n Su (sI q.d.n q.d.kd q.d.tg) (j : Int) W (by omega) (fun e he => by rw [en]; exact sI_bd (by rw [← en]; exact he)) (fun e he => by rw [eSu]; exact cell_later hbel (hq.cs e (by rw [← en]; exact he)))
  have A : Aside (Below q.W8.heap.size q.W8 W ∧ W.rowIs q.W8.heap.size 4 q.d.n (fun i => .bool (cov i)) ∧ ∀ i, i < q.d.n → (cov i = true ↔ q.d.CovB j i)) := ⟨hbel, hrow, hcov⟩
  unfold frC frL2 fl
  rw [← eCv, ← eSu, ← hm5, ← eH, ← en]
  rw [← en] at hj4 hn4
  clear hbel hrow hcov hq hnext hsg eCv eSu hm5 eH en
  conv => arg 2; whnf
  go_wp2_with (go_at_call 12; refine Calls.mono HR.out ?_; rintro e w9 ⟨rfl, hR, hb9⟩)
  obtain ⟨rj, hr1, hr2⟩ := hR
  obtain ⟨Rj, eRj⟩ : ∃ Rj, Rj = W.heap.size := ⟨_, rfl⟩
  have A9 : Aside (Below Cv q.W8 w9 ∧ w9.rowIs Cv 4 n (fun i => .bool (cov i)) ∧ (∀ i, i < n → w9.cell? ⟨Rj, i, none⟩ = some (.bool (rj i))) ∧ (∀ i, i < n → (rj i = true ↔ RA q.d.E j i)) ∧ Rj ≠ Cv ∧ (∀ i, i < n → (cov i = true ↔ q.d.CovB j i))) := by
    obtain ⟨en, eH, hm5, eSu, eCv⟩ := E.out
    obtain ⟨h1, h2, h3⟩ := A.out
    have hl := h2.lt
    subst en eCv
    refine ⟨h1.trans (hb9.mono (by omega)), h2.of_block (hb9.block _ hl), fun i hi => by rw [eRj]; exact hr1.cell hi, fun i hi => (hr2 i hi).trans St_dom, by omega, h3⟩
  rw [← eRj]
  clear hr1 hr2 hb9 eRj A HR
  go_loopg [35] n (fun gk s35 wr => ∃ (i : Nat) (cv : Nat → Bool), i ≤ n ∧ gk = n - i ∧ s35 = .int .i64 (i : Int) ∧ Below Cv q.W8 wr ∧ wr.rowIs Cv 4 n (fun i => .bool (cv i)) ∧ (∀ i, i < n → wr.cell? ⟨Rj, i, none⟩ = some (.bool (rj i))) ∧ (∀ k, k < n → (cv k = true ↔ q.d.CovB j k ∨ (k < i ∧ q.d.Cov j k))))
  case atStart =>
    obtain ⟨h1, h2, h3, h4, h5, h6⟩ := A9.out
    exact ⟨0, cov, by omega, rfl, rfl, h1, h2, h3, fun k hk => (h6 k hk).trans ⟨.inl, fun h => h.elim id (fun h => by omega)⟩⟩
  case round =>
    obtain ⟨i, cv, hi, rfl, rfl, hbel, hrow, hrj, hcv⟩ := hrel
    by_cases hin : i < n
    · have hi4 : (i : Int) < (n : Int) := by omega
      have key : ∀ P : Bool, (P = true ↔ q.d.Cov j i) → (∀ k, k < n → ((if k = i then (cv k || P) else cv k) = true ↔ q.d.CovB j k ∨ (k < i + 1 ∧ q.d.Cov j k))) := by
        intro P hP k hk
        by_cases e : k = i
        · subst e
          rw [if_pos rfl, Bool.or_eq_true, hcv k hk, hP]
          constructor
          · rintro ((h | h) | h)
            · exact .inl h
            · omega
            · exact .inr ⟨by omega, h⟩
          · rintro (h | h)
            · exact .inl (.inl h)
            · exact .inr h.2
        · rw [if_neg e, hcv k hk]
          constructor
          · rintro (h | h)
            · exact .inl h
            · exact .inr ⟨by omega, h.2⟩
          · rintro (h | h)
            · exact .inl h
            · exact .inr ⟨by omega, h.2⟩
      have kno : ¬ q.d.Cov j i → ∀ k, k < n → (cv k = true ↔ q.d.CovB j k ∨ (k < i + 1 ∧ q.d.Cov j k)) := by
        intro hno k hk
        rw [← key false ⟨fun h => (by cases h), fun h => absurd h hno⟩ k hk]
        by_cases e : k = i
        · rw [if_pos e, Bool.or_false]
        · rw [if_neg e]
      have kyes : q.d.Cov j i → ∀ k, k < n → (upd cv i true k = true ↔ q.d.CovB j k ∨ (k < i + 1 ∧ q.d.Cov j k)) := by
        intro hy k hk
        rw [← key true ⟨fun _ => hy, fun _ => rfl⟩ k hk]
        by_cases e : k = i
        · subst e; rw [if_pos rfl, upd_same, Bool.or_true]
        · rw [if_neg e, upd_ne e]
      have KN : Aside (¬ q.d.Cov j i → ∀ k, k < n → (cv k = true ↔ q.d.CovB j k ∨ (k < i + 1 ∧ q.d.Cov j k))) := kno
      have KY : Aside (q.d.Cov j i → ∀ k, k < n → (upd cv i true k = true ↔ q.d.CovB j k ∨ (k < i + 1 ∧ q.d.Cov j k))) := kyes
      have A2 : Aside (Below Cv q.W8 wr ∧ wr.rowIs Cv 4 n (fun i => .bool (cv i)) ∧ (∀ i, i < n → wr.cell? ⟨Rj, i, none⟩ = some (.bool (rj i)))) := ⟨hbel, hrow, hrj⟩
      obtain ⟨en, eH, hm5, eSu, eCv⟩ := E.out
      have hq := HQ.out
      have up : ∀ (p : Addr) (v : Value), q.W7.cell? p = some v → wr.cell? p = some v := fun p v h => cell_later (eCv ▸ hbel) (cell_later hq.b78 h)
      have cR := cell_later (eCv ▸ hbel) (hq.c0 i (by omega))
      have cr := hrj i hin
      have cKi : wr.cell? ⟨H + 4, i, none⟩ = some (.int .i64 (q.d.kd i : Int)) := by rw [eH]; exact up _ _ (hq.lq.lb.c4 (by omega))
      have cXi : wr.cell? ⟨H + 5, i, none⟩ = some (.int .i64 (q.d.X i : Int)) := by rw [eH]; exact up _ _ (hq.lq.lb.c5 (by omega))
      have cXj : wr.cell? ⟨H + 5, j, none⟩ = some (.int .i64 (q.d.X j : Int)) := by rw [eH]; exact up _ _ (hq.lq.lb.c5 (by omega))
      have cC := hrow.cell hin
      have fC := hrow.frozen i
      have F : Aside ((q.rc i = true ↔ Rch q.d.E 0 i) ∧ (rj i = true ↔ RA q.d.E j i)) := ⟨hq.rs i (by omega), A9.out.2.2.2.1 i hin⟩
      obtain ⟨rb, erb⟩ : ∃ rb, rb = q.rc i := ⟨_, rfl⟩
      obtain ⟨rv, erv⟩ : ∃ rv, rv = rj i := ⟨_, rfl⟩
      obtain ⟨k, ek⟩ : ∃ k, k = q.d.kd i := ⟨_, rfl⟩
      obtain ⟨xi, exi⟩ : ∃ xi, xi = q.d.X i := ⟨_, rfl⟩
      obtain ⟨xj, exj⟩ : ∃ xj, xj = q.d.X j := ⟨_, rfl⟩
      rw [← erb] at cR F
      rw [← erv] at cr F
      rw [← ek] at cKi
      rw [← exi] at cXi
      rw [← exj] at cXj
      have G : Aside (k = q.d.kd i ∧ xi = q.d.X i ∧ xj = q.d.X j) := ⟨ek, exi, exj⟩
      clear key kno kyes hbel hrow hrj hcv hq up en eH hm5 eSu eCv erb erv ek exi exj
      by_cases hij : i = j
      · have hn : ((i : Int) != (j : Int)) = false := by simp [hij]
        have HIJ : Aside (i = j) := hij
        clear hij
        go_wp2
        go_quiet (fail)
        go_wp2
        go_roundg (n - (i + 1))
        case measure => omega
        case rel =>
          obtain ⟨h1, h2, h3⟩ := A2.out
          exact ⟨i + 1, cv, by omega, rfl, by go_num, below_drewN h1 _, h2, h3, KN.out (fun h => h.2.1 HIJ.out)⟩
      · have hn : ((i : Int) != (j : Int)) = true := by simp; omega
        have HIJ : Aside (i ≠ j) := hij
        clear hij
        cases rb with
        | false =>
          go_wp2
          go_quiet (fail)
          go_wp2
          go_roundg (n - (i + 1))
          case measure => omega
          case rel =>
            obtain ⟨h1, h2, h3⟩ := A2.out
            exact ⟨i + 1, cv, by omega, rfl, by go_num, below_drewN h1 _, h2, h3, KN.out (fun h => (by have := F.out.1.2 h.2.2.1; cases this))⟩
        | true =>
          cases rv with
          | true =>
            go_wp2
            go_quiet (fail)
            go_wp2
            go_roundg (n - (i + 1))
            case measure => omega
            case rel =>
              obtain ⟨h1, h2, h3⟩ := A2.out
              exact ⟨i + 1, cv, by omega, rfl, by go_num, below_drewN h1 _, h2, h3, KN.out (fun h => h.2.2.2.1 (F.out.2.1 (by first | exact True.intro | rfl)))⟩
          | false =>
            by_cases hk0 : k = 0
            · subst hk0
              rw [show ((0 : Nat) : Int) = 0 from rfl] at cKi
              by_cases hx : xi = xj
              · have hxx : ((xi : Int) == (xj : Int)) = true := by simp [hx]
                have HXX : Aside (xi = xj) := hx
                clear hx
                go_wp2
                go_quiet (fail)
                go_wp2
                go_roundg (n - (i + 1))
                case measure => omega
                case rel =>
                  obtain ⟨h1, h2, h3⟩ := A2.out
                  obtain ⟨ek, exi, exj⟩ := G.out
                  have hbb : Below Cv q.W8 ((wr.drewN nq).setCell ⟨Cv, i, none⟩ (.bool true)) := (below_drewN h1 nq).trans (one_set _ _ _ _)
                  have hrr : ((wr.drewN nq).setCell ⟨Cv, i, none⟩ (.bool true)).rowIs Cv 4 n (fun z => .bool (upd cv i true z)) := by
                    have h2' : (wr.drewN nq).rowIs Cv 4 n (fun i => .bool (cv i)) := h2
                    refine (h2'.set i _).congr (fun z _ => ?_)
                    unfold upd
                    by_cases c : z = i <;> simp [c]
                  have hjj : ∀ z, z < n → ((wr.drewN nq).setCell ⟨Cv, i, none⟩ (.bool true)).cell? ⟨Rj, z, none⟩ = some (.bool (rj z)) := fun z hz => cell_other (W := wr.drewN nq) (h3 z hz) (A9.out.2.2.2.2.1) _
                  exact ⟨i + 1, upd cv i true, by omega, rfl, by go_num, hbb, hrr, hjj, KY.out ⟨HSG.out, HIJ.out, F.out.1.1 (by first | exact True.intro | rfl), fun h => (by have := F.out.2.2 h; cases this), (q.d.rd_iff i).2 (by omega), by rw [← exi, ← exj]; exact HXX.out⟩⟩
              · have hxx : ((xi : Int) == (xj : Int)) = false := by simp; omega
                have HXX : Aside (¬ xi = xj) := hx
                clear hx
                go_wp2
                go_quiet (fail)
                go_wp2
                go_roundg (n - (i + 1))
                case measure => omega
                case rel =>
                  obtain ⟨h1, h2, h3⟩ := A2.out
                  exact ⟨i + 1, cv, by omega, rfl, by go_num, below_drewN h1 _, h2, h3, KN.out (fun h => (by obtain ⟨ek, exi, exj⟩ := G.out; exact HXX.out (by rw [exi, exj]; exact h.2.2.2.2.2)))⟩
            · by_cases hk1 : k = 1
              · subst hk1
                rw [show ((1 : Nat) : Int) = 1 from rfl] at cKi
                by_cases hx : xi = xj
                · have hxx : ((xi : Int) == (xj : Int)) = true := by simp [hx]
                  have HXX : Aside (xi = xj) := hx
                  clear hx
                  go_wp2
                  go_quiet (fail)
                  go_wp2
                  go_roundg (n - (i + 1))
                  case measure => omega
                  case rel =>
                    obtain ⟨h1, h2, h3⟩ := A2.out
                    obtain ⟨ek, exi, exj⟩ := G.out
                    have hbb : Below Cv q.W8 ((wr.drewN nq).setCell ⟨Cv, i, none⟩ (.bool true)) := (below_drewN h1 nq).trans (one_set _ _ _ _)
                    have hrr : ((wr.drewN nq).setCell ⟨Cv, i, none⟩ (.bool true)).rowIs Cv 4 n (fun z => .bool (upd cv i true z)) := by
                      have h2' : (wr.drewN nq).rowIs Cv 4 n (fun i => .bool (cv i)) := h2
                      refine (h2'.set i _).congr (fun z _ => ?_)
                      unfold upd
                      by_cases c : z = i <;> simp [c]
                    have hjj : ∀ z, z < n → ((wr.drewN nq).setCell ⟨Cv, i, none⟩ (.bool true)).cell? ⟨Rj, z, none⟩ = some (.bool (rj z)) := fun z hz => cell_other (W := wr.drewN nq) (h3 z hz) (A9.out.2.2.2.2.1) _
                    exact ⟨i + 1, upd cv i true, by omega, rfl, by go_num, hbb, hrr, hjj, KY.out ⟨HSG.out, HIJ.out, F.out.1.1 (by first | exact True.intro | rfl), fun h => (by have := F.out.2.2 h; cases this), (q.d.rd_iff i).2 (by omega), by rw [← exi, ← exj]; exact HXX.out⟩⟩
                · have hxx : ((xi : Int) == (xj : Int)) = false := by simp; omega
                  have HXX : Aside (¬ xi = xj) := hx
                  clear hx
                  go_wp2
                  go_quiet (fail)
                  go_wp2
                  go_roundg (n - (i + 1))
                  case measure => omega
                  case rel =>
                    obtain ⟨h1, h2, h3⟩ := A2.out
                    exact ⟨i + 1, cv, by omega, rfl, by go_num, below_drewN h1 _, h2, h3, KN.out (fun h => (by obtain ⟨ek, exi, exj⟩ := G.out; exact HXX.out (by rw [exi, exj]; exact h.2.2.2.2.2)))⟩
              · have k0 : ((k : Int) == 0) = false := by simp; omega
                have k1 : ((k : Int) == 1) = false := by simp; omega
                have HKK : Aside (¬ k = 0 ∧ ¬ k = 1) := ⟨hk0, hk1⟩
                clear hk0 hk1
                go_wp2
                go_quiet (fail)
                go_wp2
                go_roundg (n - (i + 1))
                case measure => omega
                case rel =>
                  obtain ⟨h1, h2, h3⟩ := A2.out
                  exact ⟨i + 1, cv, by omega, rfl, by go_num, below_drewN h1 _, h2, h3, KN.out (fun h => (by have h5 := (q.d.rd_iff i).1 h.2.2.2.2.1; have h6 := HKK.out; have h7 := G.out.1; omega))⟩
    · obtain rfl : i = n := by omega
      have A2 : Aside (Below Cv q.W8 wr ∧ wr.rowIs Cv 4 i (fun z => .bool (cv z)) ∧ (∀ k, k < i → (cv k = true ↔ q.d.CovB j k ∨ (k < i ∧ q.d.Cov j k)))) := ⟨hbel, hrow, hcv⟩
      clear hbel hrow hrj hcv hin
      go_wp2
      obtain ⟨h1, h2, h3⟩ := A2.out
      obtain ⟨en, eH, hm5, eSu, eCv⟩ := E.out
      refine HX.out _ _ (RelC.mk (by unfold frC frL2; rw [← eCv, ← eSu, ← hm5, ← eH, ← en]; rfl) (eCv ▸ h1) (by rw [← eCv, ← en]; exact h2) (fun z hz => ?_))
      rw [h3 z (by omega), LD.CovB_succ]
      exact or_congr Iff.rfl ⟨fun h => h.2, fun h => ⟨by omega, h⟩⟩
end Go.Proofs.Ybulkexnju.W
