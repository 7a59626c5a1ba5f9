/-
  watchedVars: the last of starts, and the loop over the blocks that finds their successors.
-/
import Derived.Test.YbulkexnjuVarsE
namespace Go.Proofs.Ybulkexnju.W
open Go.RowKit Go.Proofs.Ybulkexnju.G
set_option linter.unusedVariables false
set_option maxRecDepth 100000

set_option maxHeartbeats 16000000 in
theorem vars_succ {V : VE} {w : World} (hin : V.In w) (hnext : ∀ a W, RelV5 V w a W → (tail11 19).wp Yba.prog (bodyPost Yba.prog Yba.f11 (varsR V w)) a W) :
    ∀ a W, RelV4 V w a W → (tail11 16).wp Yba.prog (bodyPost Yba.prog Yba.f11 (varsR V w)) a W := by
  rintro a W ⟨x, L, Bk, St, ld, st0, rfl, h0, hB, hmw, hld, hst⟩
  have hn4 := hin.n4
  have HV : Aside (V.In w) := hin
  have HX : Aside (∀ a W, RelV5 V w a W → (tail11 19).wp Yba.prog (bodyPost Yba.prog Yba.f11 (varsR V w)) a W) := hnext
  unfold fv
  conv => arg 2; whnf
  have hNn := cb_le ld V.n
  obtain ⟨st, est⟩ : ∃ st, st = upd st0 (cb ld V.n) V.n := ⟨_, rfl⟩
  have HM : Aside (Made V.n V.kd V.tg ld st (scS V.n V.kd V.tg ld st)) := by
    refine ⟨h0, fun i hi hj => (hin.tgn i hi hj).1, hld, fun i hi hl => ?_, by rw [est, upd_same], fun b l hb hl => scS_even _ _ _ _ _ b l hl, fun b l hb hl => scS_odd _ _ _ _ _ b l hl⟩
    have := cb_lt (P := ld) hl hi
    rw [est, upd_other _ _ (by omega)]
    exact hst i hi hl
  have A : Aside (MB w.heap.size L Bk St ∧ MW V w ld L Bk St (fun i => (cb ld (i + 1) : Int) - 1) (wayV st0 (cb ld V.n)) (cb ld V.n) W) := ⟨hB, hmw⟩
  have HS : Aside (W.ownsRow (w.heap.size + 5) 21 1 (.slice (some ⟨St, 0, none⟩) (cb ld V.n) (cb ld V.n + 1)) (cb ld V.n) (wayV st0 (cb ld V.n))) := hmw.rs
  have ES : Aside (st = upd st0 (cb ld V.n) V.n) := est
  obtain ⟨N, eN⟩ : ∃ N, N = cb ld V.n := ⟨_, rfl⟩
  rw [← eN] at hNn HS ⊢
  have EN : Aside (N = cb ld V.n) := eN
  obtain ⟨i, hi, hzz⟩ := Option.map_eq_some_iff.1 info21
  simp only [Prod.mk.injEq] at hzz
  obtain ⟨hz0, hz1, hz2⟩ := hzz
  have HI : Hid (Yba.prog.info? 21 = some i ∧ i.size = 1) := ⟨hi, hz1⟩
  clear hi hz0 hz1 hz2 hmw hld hB hin hnext eN est hst
  go_wp2_with (at_builtin; refine wpList_append_fits _ rfl (.tmp 143) (.tmp 145) 57 rfl (w.heap.size + 5) 21 i 1 Yba.underlying57 HI.out.1 HI.out.2 St N (N + 1) (wayV st0 N) rfl ?a1 ⟨W.heap.size, 0, none⟩ 1 1 [.int .i32 (V.n : Int)] rfl rfl ?a2 ?a3 ?a4 ?a5)
  case a1 => exact HS.out.alloc _
  case a2 => exact cells_one W 21 (.int .i32 (V.n : Int))
  case a3 =>
    intro u hu
    rw [List.mem_singleton.1 hu]
    rfl
  case a4 => omega
  case a5 =>
  intro w1 hown1 hgrow1
  have A2 : Aside (NW V w ld Bk St w1.heap.size st w1) := by
    obtain ⟨hB, hmw⟩ := A.out
    have h := (hmw.alloc (.cells #[.int .i32 (V.n : Int)] 21)).push hB hgrow1 (by rw [← EN.out]; exact hown1)
    refine ⟨h.vb, fun i hi => h.rb.cell hi, fun b hb => ?_, h.vb.env.big, h.rb.lt, (h.rs.lt St rfl).2⟩
    rw [ES.out]
    have := hown1
    rw [← wayV_push] at this
    rw [← EN.out] at hb ⊢
    rw [this.cellAt b (by omega), wayV_at _ (by omega)]
  have hmk := make_lc .i64 .i64 (2 * N) (2 * N) (by omega) (by omega) w1
  rw [show ((2 * N : Nat) : Int) = 2 * (N : Int) by omega] at hmk
  obtain ⟨W1, hW1⟩ : ∃ W1, W1 = w1.alloc (.cells (madeCells #[.int .i32 0] (2 * N)) 21) := ⟨_, rfl⟩
  rw [← hW1] at hmk
  obtain ⟨Su, eSu⟩ : ∃ Su, Su = w1.heap.size := ⟨_, rfl⟩
  have A3 : Aside (NW V w ld Bk St Su st W1 ∧ W1.rowIs Su 21 (2 * N) (fun _ => .int .i32 0)) := by
    rw [hW1, eSu]
    exact ⟨A2.out.later ((Below.refl _ _).alloc (Nat.le_refl _) _), madeRow w1 (2 * N)⟩
  rw [← eSu] at hmk
  clear hW1 eSu A A2 hown1 hgrow1 HS ES
  obtain ⟨M2, hM2⟩ : ∃ M2 : Nat, M2 = 2 * N := ⟨_, rfl⟩
  rw [← hM2] at hmk A3
  have EM : Aside (M2 = 2 * N) := hM2
  clear hM2
  go_wp2
  clear hmk
  rename_i hK
  have hK' : ∀ a W, RelV5 V w a W → _ := fun a W h => hK a W (HX.out a W h)
  clear hK
  go_loopg [151] N (fun gk s151 wr => ∃ (j : Nat), j ≤ N ∧ gk = N - j ∧ s151 = .int .i64 (j : Int) ∧ NW V w ld Bk St Su st wr ∧ wr.rowIs Su 21 M2 (fun e => .int .i32 (if e < 2 * j then scS V.n V.kd V.tg ld st e else 0)))
  case atStart => exact ⟨0, by omega, rfl, rfl, A3.out.1, A3.out.2.congr (fun i _ => by simp)⟩
  case round =>
    clear A3
    obtain ⟨j, hj, rfl, rfl, hnw, hrow⟩ := hrel
    by_cases hlt : j < N
    · have hi4 : (j : Int) < (N : Int) := by omega
      have hi5 : (j : Int) + 1 < (N : Int) + 1 := by omega
      have hjN : j < cb ld V.n := by rw [← EN.out]; exact hlt
      have hinc := HM.out.inc hjN
      have hle := HM.out.le (show j + 1 ≤ cb ld V.n by omega)
      obtain ⟨l, hl⟩ : ∃ l, l + 1 = st (j + 1) := ⟨st (j + 1) - 1, by omega⟩
      have hln : l < V.n := by omega
      have hlni : (l : Int) < (V.n : Int) := by omega
      have cs := hnw.rs (j + 1) (by omega)
      rw [← hl, show ((l + 1 : Nat) : Int) = (l : Int) + 1 by omega] at cs
      have hops := hnw.vb.env.cops
      have hop := hnw.vb.env.ops l hln
      simp only [VE.env] at hop hops
      have hkd := HV.out.kd9 l hln
      obtain ⟨k, ek⟩ : ∃ k, k = V.kd l := ⟨_, rfl⟩
      rw [← ek] at hop hkd
      have hc : (k = 0 ∨ k = 1 ∨ k = 2 ∨ k = 8 ∨ k = 6 ∨ k = 7) ∨ (k = 4 ∨ k = 5) ∨ k = 3 := by omega
      have A2 : Aside (NW V w ld Bk St Su st wr ∧ wr.rowIs Su 21 M2 (fun e => .int .i32 (if e < 2 * j then scS V.n V.kd V.tg ld st e else 0)) ∧ k = V.kd l ∧ l + 1 = st (j + 1)) := ⟨hnw, hrow, ek, hl⟩
      obtain ⟨e0, he0⟩ : ∃ e0, e0 = 2 * j := ⟨_, rfl⟩
      have E0 : Aside (e0 = 2 * j) := he0
      have eM := EM.out
      have heM : e0 + 1 < M2 := by omega
      have b1 : (e0 : Int) < (M2 : Int) := by omega
      have b2 : (e0 : Int) + 1 < (M2 : Int) := by omega
      have b3 : 2 * (j : Int) = (e0 : Int) := by omega
      have su : ∀ w' : World, Below wr.heap.size wr w' → w'.cell? ⟨Su, e0, none⟩ = some (.int .i32 (if e0 < 2 * j then scS V.n V.kd V.tg ld st e0 else 0)) ∧ w'.frozen? ⟨Su, e0, none⟩ = false ∧ (∀ a : Int, (w'.setCell ⟨Su, e0, none⟩ (.int .i32 a)).cell? ⟨Su, e0 + 1, none⟩ = some (.int .i32 (if e0 + 1 < 2 * j then scS V.n V.kd V.tg ld st (e0 + 1) else 0))) ∧ (∀ a : Int, (w'.setCell ⟨Su, e0, none⟩ (.int .i32 a)).frozen? ⟨Su, e0 + 1, none⟩ = false) := by
        intro w' hb
        have hr := hrow.of_block (hb.block _ hrow.lt)
        refine ⟨hr.cell (by omega), hr.frozen _, fun a => ?_, fun a => (hr.set e0 _).frozen _⟩
        rw [(hr.set e0 _).cell (by omega), if_neg (by omega)]
      obtain ⟨nx, enx⟩ : ∃ nx : Int, nx = (cb ld (l + 1 + 1) : Int) - 1 := ⟨_, rfl⟩
      have NX : Aside (nx = (cb ld (l + 1 + 1) : Int) - 1) := enx
      by_cases hl2 : l + 1 < V.n
      · have hl2i : (l : Int) + 1 < (V.n : Int) := by omega
        have cn := hnw.rb (l + 1) hl2
        rw [← enx] at cn
        rcases hc with hc | hc
        · obtain ⟨s1, s2, s3, s4⟩ := su wr (Below.refl _ _)
          clear hnw hrow su ek hl hkd hjN hinc hle he0 enx eM
          rcases hc with rfl | rfl | rfl | rfl | rfl | rfl
          all_goals
            simp only [opc] at hop
            go_wp2
            go_roundg (N - (j + 1))
            case measure => omega
            case rel =>
              obtain ⟨hnw, hrow, ek, hl⟩ := A2.out
              have e0 := E0.out
              subst e0
              have hp := HM.out.pos
              have hp1 := hp (l + 1)
              have enx := NX.out
              refine ⟨j + 1, by omega, rfl, by go_num, hnw.later (two_sets _ _ _ _ _ _), succ_row hrow ?_ ?_⟩
              · rw [scS_even _ _ _ _ _ j l hl]
                first
                  | rw [if_pos (by unfold ret; omega)]
                  | (rw [if_neg (by unfold ret; omega), if_pos hl2]; omega)
                  | rw [if_neg (by unfold ret; omega), if_neg hl2]
              · rw [scS_odd _ _ _ _ _ j l hl]
                rw [if_neg (by unfold jmp; omega)]
        · have hjm : jmp V.kd l := by unfold jmp; omega
          have HT := hnw.vb.target HV.out hln hjm
          obtain ⟨t, et⟩ : ∃ t, t = V.tg l := ⟨_, rfl⟩
          have htn : t < V.n := by rw [et]; exact (HV.out.tgn l hln hjm).1
          have hti : (t : Int) < (V.n : Int) := by omega
          rw [← et] at HT
          obtain ⟨tv, etv⟩ : ∃ tv : Int, tv = (cb ld (t + 1) : Int) - 1 := ⟨_, rfl⟩
          have ET : Aside (t = V.tg l ∧ tv = (cb ld (t + 1) : Int) - 1) := ⟨et, etv⟩
          have HCD : Aside (∀ w1 : World, Below wr.heap.size wr w1 → Calls Yba.prog 29 #[.int .i32 (l : Int), .pointer (some ⟨w.heap.size + 3, 0, none⟩), .pointer (some ⟨w.heap.size + 4, 0, none⟩)] w1 fun e w' => e = .returned (.int .i32 (t : Int)) ∧ Hid (Below wr.heap.size wr w') ∧ w'.cell? ⟨Bk, t, none⟩ = some (.int .i32 tv) ∧ w'.cell? ⟨Su, e0, none⟩ = some (.int .i32 (if e0 < 2 * j then scS V.n V.kd V.tg ld st e0 else 0)) ∧ w'.frozen? ⟨Su, e0, none⟩ = false ∧ (∀ a : Int, (w'.setCell ⟨Su, e0, none⟩ (.int .i32 a)).cell? ⟨Su, e0 + 1, none⟩ = some (.int .i32 (if e0 + 1 < 2 * j then scS V.n V.kd V.tg ld st (e0 + 1) else 0))) ∧ (∀ a : Int, (w'.setCell ⟨Su, e0, none⟩ (.int .i32 a)).frozen? ⟨Su, e0 + 1, none⟩ = false)) := by
            intro w1 hw1
            refine (HT w1 hw1).mono ?_
            rintro e w' ⟨rfl, hb⟩
            refine ⟨rfl, hb, ?_, su w' hb⟩
            rw [etv]
            exact (hb.cell (Nat.lt_trans hnw.lb hrow.lt)).trans (hnw.rb t htn)
          have ct : wr.cell? ⟨Bk, t, none⟩ = some (.int .i32 tv) := by rw [etv]; exact hnw.rb t htn
          have HC : Aside (Calls Yba.prog 29 #[.int .i32 (l : Int), .pointer (some ⟨w.heap.size + 3, 0, none⟩), .pointer (some ⟨w.heap.size + 4, 0, none⟩)] wr _) := HCD.out wr (Below.refl _ _)
          clear hnw hrow su ek hl hkd hjN hinc hle he0 enx eM HT et etv hjm
          rcases hc with hc | rfl
          · rcases hc with rfl | rfl
            all_goals
              simp only [opc] at hop
              go_wp2_with (go_at_call 29; refine Calls.mono HC.out ?_; rintro e w' ⟨rfl, hb, q0, q1, q2, q3, q4⟩)
              go_roundg (N - (j + 1))
              case measure => omega
              case rel =>
                obtain ⟨hnw, hrow, ek, hl⟩ := A2.out
                have e0 := E0.out
                subst e0
                have hp := HM.out.pos
                have hp1 := hp (l + 1)
                have enx := NX.out
                refine ⟨j + 1, by omega, rfl, by go_num, (hnw.later (hb.out.mono (Nat.le_of_lt hrow.lt))).later (two_sets _ _ _ _ _ _), succ_row (hrow.of_block (hb.out.block _ hrow.lt)) ?_ ?_⟩
                · rw [scS_even _ _ _ _ _ j l hl]
                  first
                    | rw [if_pos (by unfold ret; omega)]
                    | (rw [if_neg (by unfold ret; omega), if_pos hl2]; omega)
                    | rw [if_neg (by unfold ret; omega), if_neg hl2]
                · rw [scS_odd _ _ _ _ _ j l hl]
                  rw [if_pos (by unfold jmp; omega)]
                  obtain ⟨et, etv⟩ := ET.out
                  rw [← et]
                  have hp2 := hp t
                  omega
          · simp only [opc] at hop
            go_wp2
            go_region_held3 (fun w' => w'.cell? ⟨Bk, t, none⟩ = some (.int .i32 tv)) (first | go_keep | exact ct | exact q0) (first | (go_at_call 29; refine (HCD.out _ ?_).mono ?_; exact (Below.refl _ _).drew; rintro e w' ⟨rfl, hb, q0, q1, q2, q3, q4⟩))
            go_wp2
            go_roundg (N - (j + 1))
            case measure => omega
            case rel =>
              obtain ⟨hnw, hrow, ek, hl⟩ := A2.out
              have e0 := E0.out
              subst e0
              have hp := HM.out.pos
              have hp1 := hp (l + 1)
              have enx := NX.out
              refine ⟨j + 1, by omega, rfl, by go_num, (hnw.later (hb.out.mono (Nat.le_of_lt hrow.lt))).later (two_sets _ _ _ _ _ _), succ_row (hrow.of_block (hb.out.block _ hrow.lt)) ?_ ?_⟩
              · rw [scS_even _ _ _ _ _ j l hl]
                first
                  | rw [if_pos (by unfold ret; omega)]
                  | (rw [if_neg (by unfold ret; omega), if_pos hl2]; omega)
                  | rw [if_neg (by unfold ret; omega), if_neg hl2]
              · rw [scS_odd _ _ _ _ _ j l hl]
                rw [if_pos (by unfold jmp; omega)]
                obtain ⟨et, etv⟩ := ET.out
                rw [← et]
                have hp2 := hp t
                omega
      · have hl2i : ¬ ((l : Int) + 1 < (V.n : Int)) := by omega
        rcases hc with hc | hc
        · obtain ⟨s1, s2, s3, s4⟩ := su wr (Below.refl _ _)
          clear hnw hrow su ek hl hkd hjN hinc hle he0 enx eM
          rcases hc with rfl | rfl | rfl | rfl | rfl | rfl
          all_goals
            simp only [opc] at hop
            go_wp2
            go_roundg (N - (j + 1))
            case measure => omega
            case rel =>
              obtain ⟨hnw, hrow, ek, hl⟩ := A2.out
              have e0 := E0.out
              subst e0
              have hp := HM.out.pos
              have hp1 := hp (l + 1)
              have enx := NX.out
              refine ⟨j + 1, by omega, rfl, by go_num, hnw.later (two_sets _ _ _ _ _ _), succ_row hrow ?_ ?_⟩
              · rw [scS_even _ _ _ _ _ j l hl]
                first
                  | rw [if_pos (by unfold ret; omega)]
                  | (rw [if_neg (by unfold ret; omega), if_pos hl2]; omega)
                  | rw [if_neg (by unfold ret; omega), if_neg hl2]
              · rw [scS_odd _ _ _ _ _ j l hl]
                rw [if_neg (by unfold jmp; omega)]
        · have hjm : jmp V.kd l := by unfold jmp; omega
          have HT := hnw.vb.target HV.out hln hjm
          obtain ⟨t, et⟩ : ∃ t, t = V.tg l := ⟨_, rfl⟩
          have htn : t < V.n := by rw [et]; exact (HV.out.tgn l hln hjm).1
          have hti : (t : Int) < (V.n : Int) := by omega
          rw [← et] at HT
          obtain ⟨tv, etv⟩ : ∃ tv : Int, tv = (cb ld (t + 1) : Int) - 1 := ⟨_, rfl⟩
          have ET : Aside (t = V.tg l ∧ tv = (cb ld (t + 1) : Int) - 1) := ⟨et, etv⟩
          have HCD : Aside (∀ w1 : World, Below wr.heap.size wr w1 → Calls Yba.prog 29 #[.int .i32 (l : Int), .pointer (some ⟨w.heap.size + 3, 0, none⟩), .pointer (some ⟨w.heap.size + 4, 0, none⟩)] w1 fun e w' => e = .returned (.int .i32 (t : Int)) ∧ Hid (Below wr.heap.size wr w') ∧ w'.cell? ⟨Bk, t, none⟩ = some (.int .i32 tv) ∧ w'.cell? ⟨Su, e0, none⟩ = some (.int .i32 (if e0 < 2 * j then scS V.n V.kd V.tg ld st e0 else 0)) ∧ w'.frozen? ⟨Su, e0, none⟩ = false ∧ (∀ a : Int, (w'.setCell ⟨Su, e0, none⟩ (.int .i32 a)).cell? ⟨Su, e0 + 1, none⟩ = some (.int .i32 (if e0 + 1 < 2 * j then scS V.n V.kd V.tg ld st (e0 + 1) else 0))) ∧ (∀ a : Int, (w'.setCell ⟨Su, e0, none⟩ (.int .i32 a)).frozen? ⟨Su, e0 + 1, none⟩ = false)) := by
            intro w1 hw1
            refine (HT w1 hw1).mono ?_
            rintro e w' ⟨rfl, hb⟩
            refine ⟨rfl, hb, ?_, su w' hb⟩
            rw [etv]
            exact (hb.cell (Nat.lt_trans hnw.lb hrow.lt)).trans (hnw.rb t htn)
          have ct : wr.cell? ⟨Bk, t, none⟩ = some (.int .i32 tv) := by rw [etv]; exact hnw.rb t htn
          have HC : Aside (Calls Yba.prog 29 #[.int .i32 (l : Int), .pointer (some ⟨w.heap.size + 3, 0, none⟩), .pointer (some ⟨w.heap.size + 4, 0, none⟩)] wr _) := HCD.out wr (Below.refl _ _)
          clear hnw hrow su ek hl hkd hjN hinc hle he0 enx eM HT et etv hjm
          rcases hc with hc | rfl
          · rcases hc with rfl | rfl
            all_goals
              simp only [opc] at hop
              go_wp2_with (go_at_call 29; refine Calls.mono HC.out ?_; rintro e w' ⟨rfl, hb, q0, q1, q2, q3, q4⟩)
              go_roundg (N - (j + 1))
              case measure => omega
              case rel =>
                obtain ⟨hnw, hrow, ek, hl⟩ := A2.out
                have e0 := E0.out
                subst e0
                have hp := HM.out.pos
                have hp1 := hp (l + 1)
                have enx := NX.out
                refine ⟨j + 1, by omega, rfl, by go_num, (hnw.later (hb.out.mono (Nat.le_of_lt hrow.lt))).later (two_sets _ _ _ _ _ _), succ_row (hrow.of_block (hb.out.block _ hrow.lt)) ?_ ?_⟩
                · rw [scS_even _ _ _ _ _ j l hl]
                  first
                    | rw [if_pos (by unfold ret; omega)]
                    | (rw [if_neg (by unfold ret; omega), if_pos hl2]; omega)
                    | rw [if_neg (by unfold ret; omega), if_neg hl2]
                · rw [scS_odd _ _ _ _ _ j l hl]
                  rw [if_pos (by unfold jmp; omega)]
                  obtain ⟨et, etv⟩ := ET.out
                  rw [← et]
                  have hp2 := hp t
                  omega
          · simp only [opc] at hop
            go_wp2
            go_region_held3 (fun w' => w'.cell? ⟨Bk, t, none⟩ = some (.int .i32 tv)) (first | go_keep | exact ct | exact q0) (first | (go_at_call 29; refine (HCD.out _ ?_).mono ?_; exact (Below.refl _ _).drew; rintro e w' ⟨rfl, hb, q0, q1, q2, q3, q4⟩))
            go_wp2
            go_roundg (N - (j + 1))
            case measure => omega
            case rel =>
              obtain ⟨hnw, hrow, ek, hl⟩ := A2.out
              have e0 := E0.out
              subst e0
              have hp := HM.out.pos
              have hp1 := hp (l + 1)
              have enx := NX.out
              refine ⟨j + 1, by omega, rfl, by go_num, (hnw.later (hb.out.mono (Nat.le_of_lt hrow.lt))).later (two_sets _ _ _ _ _ _), succ_row (hrow.of_block (hb.out.block _ hrow.lt)) ?_ ?_⟩
              · rw [scS_even _ _ _ _ _ j l hl]
                first
                  | rw [if_pos (by unfold ret; omega)]
                  | (rw [if_neg (by unfold ret; omega), if_pos hl2]; omega)
                  | rw [if_neg (by unfold ret; omega), if_neg hl2]
              · rw [scS_odd _ _ _ _ _ j l hl]
                rw [if_pos (by unfold jmp; omega)]
                obtain ⟨et, etv⟩ := ET.out
                rw [← et]
                have hp2 := hp t
                omega
    · obtain rfl : j = N := by omega
      have A2 : Aside (NW V w ld Bk St Su st wr ∧ wr.rowIs Su 21 M2 (fun e => .int .i32 (if e < 2 * j then scS V.n V.kd V.tg ld st e else 0))) := ⟨hnw, hrow⟩
      clear hnw hrow hlt
      go_wp2
      obtain ⟨hnw, hrow⟩ := A2.out
      have eN := EN.out
      have eM := EM.out
      refine RelV5.mk (by rw [← eN, ← eM]; rfl) hnw (by rw [← eN, ← eM]; exact hrow.congr (fun i hi => by rw [if_pos (by omega)])) HM.out
end Go.Proofs.Ybulkexnju.W
