/-
  watchedVars: block and starts are filled.
-/
import Derived.Test.YbulkexnjuVarsC
namespace Go.Proofs.Ybulkexnju.W
open Go.RowKit Go.Proofs.Ybulkexnju.G
set_option linter.unusedVariables false
set_option maxRecDepth 100000

/-- block and starts are filled, but for the last of starts: region 45 is next -/
def RelV4 (V : VE) (w : World) (a : Act) (W : World) : Prop :=
  ∃ (x : Nat → Value) (L Bk St : Nat) (ld : Nat → Bool) (st : Nat → Nat), a = ⟨(fv x w.heap.size V.n (.slice (some ⟨L, 0, none⟩) V.n V.n) (.int .i64 (cb ld V.n : Int)) (.slice (some ⟨Bk, 0, none⟩) V.n V.n) (.slice (some ⟨St, 0, none⟩) (cb ld V.n) (cb ld V.n + 1)) (x 26) (x 31) (x 33) (x 34) (x 35) (x 37) (x 38)).toArray, []⟩ ∧
    0 < V.n ∧ MB w.heap.size L Bk St ∧ MW V w ld L Bk St (fun i => (cb ld (i + 1) : Int) - 1) (wayV st (cb ld V.n)) (cb ld V.n) W ∧ (∀ i, i < V.n → (ld i = true ↔ Lead V.n V.kd V.tg i)) ∧ ∀ i, i < V.n → ld i = true → st (cb ld i) = i

theorem RelV4.mk {V : VE} {w : World} {l : List Value} {W : World} {L Bk St : Nat} {ld : Nat → Bool} {st : Nat → Nat} (hf : l = fv (nth l) w.heap.size V.n (.slice (some ⟨L, 0, none⟩) V.n V.n) (.int .i64 (cb ld V.n : Int)) (.slice (some ⟨Bk, 0, none⟩) V.n V.n) (.slice (some ⟨St, 0, none⟩) (cb ld V.n) (cb ld V.n + 1)) (nth l 26) (nth l 31) (nth l 33) (nth l 34) (nth l 35) (nth l 37) (nth l 38))
    (h2 : 0 < V.n) (h3 : MB w.heap.size L Bk St) (h4 : MW V w ld L Bk St (fun i => (cb ld (i + 1) : Int) - 1) (wayV st (cb ld V.n)) (cb ld V.n) W) (h5 : ∀ i, i < V.n → (ld i = true ↔ Lead V.n V.kd V.tg i)) (h6 : ∀ i, i < V.n → ld i = true → st (cb ld i) = i) : RelV4 V w ⟨l.toArray, []⟩ W :=
  ⟨nth l, L, Bk, St, ld, st, by rw [← hf], h2, h3, h4, h5, h6⟩

theorem MW.congrB {V : VE} {w : World} {ld : Nat → Bool} {L Bk St : Nat} {bk bk' : Nat → Int} {S : List Value} {len : Nat} {W : World} (h : MW V w ld L Bk St bk S len W) (e : ∀ i, i < V.n → bk i = bk' i) : MW V w ld L Bk St bk' S len W :=
  ⟨h.vb, h.rl, h.rb.congr (fun i hi => by rw [e i hi]), h.rs⟩

set_option maxHeartbeats 8000000 in
theorem vars_blocks {V : VE} {w : World} (hin : V.In w) (hnext : ∀ a W, RelV4 V w a W → (tail11 16).wp Yba.prog (bodyPost Yba.prog Yba.f11 (varsR V w)) a W) :
    ∀ a W, RelV3 V w a W → (tail11 15).wp Yba.prog (bodyPost Yba.prog Yba.f11 (varsR V w)) a W := by
  rintro a W ⟨x, L, Bk, St, ld, rfl, h0, hB, hmw, hld⟩
  have hn4 := hin.n4
  have HX : Aside (∀ a W, RelV4 V w a W → (tail11 16).wp Yba.prog (bodyPost Yba.prog Yba.f11 (varsR V w)) a W) := hnext
  unfold fv
  conv => arg 2; whnf
  have HB : Aside (MB w.heap.size L Bk St) := hB
  have A : Aside (MW V w ld L Bk St (fun _ => 0) [] 0 W ∧ ∀ i, i < V.n → (ld i = true ↔ Lead V.n V.kd V.tg i)) := ⟨hmw, hld⟩
  have hNn := cb_le ld V.n
  have hmono : Aside (∀ j, j ≤ V.n → cb ld j ≤ cb ld V.n) := fun j hj => cb_mono ld hj
  obtain ⟨N, eN⟩ : ∃ N, N = cb ld V.n := ⟨_, rfl⟩
  rw [← eN] at hNn ⊢
  have EN : Aside (N = cb ld V.n) := eN
  obtain ⟨i, hi, hzz⟩ := Option.map_eq_some_iff.1 info21
  simp only [Prod.mk.injEq] at hzz
  obtain ⟨hz0, hz1, hz2⟩ := hzz
  have HI : Hid (Yba.prog.info? 21 = some i ∧ i.size = 1) := ⟨hi, hz1⟩
  clear hi hz0 hz1 hz2 hmw hld hB hin hnext eN
  go_wp2
  rename_i hK
  have hK' : ∀ a W, RelV4 V w a W → _ := fun a W h => hK a W (HX.out a W h)
  clear hK
  go_loopg [124, 23] V.n (fun gk s124 s23 wr => ∃ (j c : Nat) (st : Nat → Nat), j ≤ V.n ∧ c = cb ld j ∧ gk = V.n - j ∧ s124 = .int .i64 (j : Int) ∧ s23 = .slice (some ⟨St, 0, none⟩) c (N + 1) ∧ MW V w ld L Bk St (fun i => if i < j then (cb ld (i + 1) : Int) - 1 else 0) (wayV st c) c wr ∧ ∀ i, i < j → ld i = true → st (cb ld i) = i)
  case atStart => exact ⟨0, 0, fun _ => 0, by omega, rfl, rfl, rfl, rfl, A.out.1.congrB (fun i _ => by simp), fun i hi => by omega⟩
  case round =>
    obtain ⟨j, c, st, hj, ec, rfl, rfl, rfl, hmw, hst⟩ := hrel
    have hcN := hmono.out j hj
    rw [← ec, ← EN.out] at hcN
    by_cases hlt : j < V.n
    · have hi4 : (j : Int) < (V.n : Int) := by omega
      have hcN1 := hmono.out (j + 1) hlt
      rw [← EN.out] at hcN1
      have c1 := hmw.rl.cell hlt
      have c2 := hmw.rb.cell hlt
      have f2 := hmw.rb.frozen j
      have hci : (c : Int) ≤ 4096 := by omega
      obtain ⟨v, ev⟩ : ∃ v, v = ld j := ⟨_, rfl⟩
      rw [← ev] at c1
      have E : Aside (v = ld j ∧ c = cb ld j) := ⟨ev, ec⟩
      have A2 : Aside (MW V w ld L Bk St (fun i => if i < j then (cb ld (i + 1) : Int) - 1 else 0) (wayV st c) c wr ∧ ∀ i, i < j → ld i = true → st (cb ld i) = i) := ⟨hmw, hst⟩
      have HS : Aside (wr.ownsRow (w.heap.size + 5) 21 1 (.slice (some ⟨St, 0, none⟩) c (N + 1)) c (wayV st c)) := by rw [EN.out]; exact hmw.rs
      cases v with
      | true =>
        have hc1 : c + 1 ≤ N := by rw [cb_yes ev.symm, ← ec] at hcN1; exact hcN1
        clear ev ec hmw hst A c2 f2 hcN1
        go_wp2_with (at_builtin; refine wpList_append_fits _ rfl (.tmp 130) (.tmp 133) 57 rfl (w.heap.size + 5) 21 i 1 Yba.underlying57 HI.out.1 HI.out.2 St c (N + 1) (wayV st c) rfl ?a1 ⟨wr.heap.size, 0, none⟩ 1 1 [.int .i32 (j : Int)] rfl rfl ?a2 ?a3 ?a4 ?a5)
        case a1 => exact HS.out.alloc _
        case a2 => exact cells_one wr 21 (.int .i32 (j : Int))
        case a3 =>
          intro u hu
          rw [List.mem_singleton.1 hu]
          rfl
        case a4 => omega
        case a5 =>
        intro w1 hown1 hgrow1
        have A3 : Aside (MW V w ld L Bk St (fun i => if i < j then (cb ld (i + 1) : Int) - 1 else 0) (wayV st c ++ [.int .i32 (j : Int)]) (c + 1) w1) := (A2.out.1.alloc _).push HB.out hgrow1 (by rw [← EN.out]; exact hown1)
        have c2 := A3.out.rb.cell hlt
        have f2 := A3.out.rb.frozen j
        clear hown1 hgrow1 HS
        go_wp2
        go_roundg (V.n - (j + 1))
        case measure => omega
        case rel =>
          obtain ⟨ev, ec⟩ := E.out
          refine ⟨j + 1, c + 1, upd st c j, by omega, by rw [cb_yes ev.symm, ec], rfl, by go_num, rfl, ?_, ?_⟩
          · rw [wayV_push]
            have h := A3.out.setB HB.out j (c : Int)
            have h2 := h.congrB (bk' := fun i => if i < j + 1 then (cb ld (i + 1) : Int) - 1 else 0) (fun i _ => ?_)
            · exact h2
            · unfold upd
              by_cases e : i = j
              · subst e
                rw [if_pos rfl, if_pos (by omega), cb_yes ev.symm, ec]
                omega
              · rw [if_neg e]
                dsimp only
                by_cases e2 : i < j
                · rw [if_pos e2, if_pos (by omega)]
                · rw [if_neg e2, if_neg (by omega)]
          · intro i hi hl
            by_cases e : i = j
            · subst e
              rw [← ec, upd_same]
            · have := cb_lt (P := ld) hl (show i < j by omega)
              rw [upd_other _ _ (by rw [ec]; omega)]
              exact A2.out.2 i (by omega) hl
      | false =>
        clear ev ec hmw hst A hcN1 HS
        go_wp2
        go_roundg (V.n - (j + 1))
        case measure => omega
        case rel =>
          obtain ⟨ev, ec⟩ := E.out
          refine ⟨j + 1, c, st, by omega, by rw [cb_no ev.symm, ec], rfl, by go_num, rfl, ?_, ?_⟩
          · have h := A2.out.1.setB HB.out j ((c : Int) - 1)
            have h2 := h.congrB (bk' := fun i => if i < j + 1 then (cb ld (i + 1) : Int) - 1 else 0) (fun i _ => ?_)
            · exact h2
            · unfold upd
              by_cases e : i = j
              · subst e
                rw [if_pos rfl, if_pos (by omega), cb_no ev.symm, ec]
              · rw [if_neg e]
                dsimp only
                by_cases e2 : i < j
                · rw [if_pos e2, if_pos (by omega)]
                · rw [if_neg e2, if_neg (by omega)]
          · intro i hi hl
            by_cases e : i = j
            · subst e; rw [← ev] at hl; cases hl
            · exact A2.out.2 i (by omega) hl
    · obtain rfl : j = V.n := by omega
      have A2 : Aside (MW V w ld L Bk St (fun i => if i < V.n then (cb ld (i + 1) : Int) - 1 else 0) (wayV st c) c wr ∧ (∀ i, i < V.n → ld i = true → st (cb ld i) = i) ∧ c = cb ld V.n) := ⟨hmw, hst, ec⟩
      clear hmw hst ec hlt
      go_wp2
      obtain ⟨hmw, hst, ec⟩ := A2.out
      have eN := EN.out
      subst ec
      exact RelV4.mk (by rw [← eN]; rfl) h0 HB.out (hmw.congrB (fun i hi => by rw [if_pos hi])) A.out.2 hst
end Go.Proofs.Ybulkexnju.W
