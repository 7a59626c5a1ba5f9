/-
  watchedVars: the loop that finds the leads.
-/
import Derived.Test.YbulkexnjuVarsA
namespace Go.Proofs.Ybulkexnju.W
open Go.RowKit Go.Proofs.Ybulkexnju.G
set_option linter.unusedVariables false
set_option maxRecDepth 100000

theorem kd_cases {k : Nat} (h : k < 9) : k = 0 ∨ k = 1 ∨ k = 2 ∨ k = 3 ∨ k = 4 ∨ k = 5 ∨ k = 6 ∨ k = 7 ∨ k = 8 := by omega

/-- the leads are known: region 30 is next -/
def RelV2 (V : VE) (w : World) (a : Act) (W : World) : Prop :=
  ∃ (x : Nat → Value) (L : Nat) (ld : Nat → Bool), a = ⟨(fv x w.heap.size V.n (.slice (some ⟨L, 0, none⟩) V.n V.n) (x 19) (x 22) (x 23) (x 26) (x 31) (x 33) (x 34) (x 35) (x 37) (x 38)).toArray, []⟩ ∧
    VB V w W ∧ 0 < V.n ∧ W.rowIs L 4 V.n (fun i => .bool (ld i)) ∧ w.heap.size + 5 ≤ L ∧ ∀ i, i < V.n → (ld i = true ↔ Lead V.n V.kd V.tg i)

theorem RelV2.mk {V : VE} {w : World} {l : List Value} {W : World} {L : Nat} {ld : Nat → Bool} (hf : l = fv (nth l) w.heap.size V.n (.slice (some ⟨L, 0, none⟩) V.n V.n) (nth l 19) (nth l 22) (nth l 23) (nth l 26) (nth l 31) (nth l 33) (nth l 34) (nth l 35) (nth l 37) (nth l 38))
    (h1 : VB V w W) (h2 : 0 < V.n) (h3 : W.rowIs L 4 V.n (fun i => .bool (ld i))) (h4 : w.heap.size + 5 ≤ L) (h5 : ∀ i, i < V.n → (ld i = true ↔ Lead V.n V.kd V.tg i)) : RelV2 V w ⟨l.toArray, []⟩ W :=
  ⟨nth l, L, ld, by rw [← hf], h1, h2, h3, h4, h5⟩

theorem lead_zero {kd tg : Nat → Nat} {i : Nat} : Lead 0 kd tg i ↔ i = 0 :=
  ⟨fun h => h.elim id (fun ⟨k, hk, _⟩ => by omega), fun h => .inl h⟩

theorem lead_step {kd tg : Nat → Nat} {j i : Nat} : Lead (j + 1) kd tg i ↔ Lead j kd tg i ∨ (jmp kd j ∧ tg j = i) ∨ ((jmp kd j ∨ ret kd j) ∧ j + 1 = i) := by
  unfold Lead
  constructor
  · rintro (h | ⟨k, hk, h⟩)
    · exact .inl (.inl h)
    · by_cases c : k = j
      · subst c; exact .inr h
      · exact .inl (.inr ⟨k, by omega, h⟩)
  · rintro ((h | ⟨k, hk, h⟩) | h)
    · exact .inl h
    · exact .inr ⟨k, by omega, h⟩
    · exact .inr ⟨j, by omega, h⟩

theorem VB.target {V : VE} {w W : World} (hin : V.In w) (h : VB V w W) {j : Nat} (hj : j < V.n) (hjmp : jmp V.kd j) : ∀ w' : World, Below W.heap.size W w' → Calls Yba.prog 29 #[.int .i32 (j : Int), .pointer (some ⟨w.heap.size + 3, 0, none⟩), .pointer (some ⟨w.heap.size + 4, 0, none⟩)] w' fun e w'' => e = .returned (.int .i32 (V.tg j)) ∧ Below W.heap.size W w'' := by
  intro w' hb
  have ht := hin.tgn j hj hjmp
  exact (target_any (V.env w.heap.size) (w.heap.size + 5) j (V.tg j) w' (h.later (hb.mono h.env.big)).env hj ht.1 ht.2).mono (fun e w'' h => ⟨h.1, hb.trans (h.2.mono hb.size)⟩)

theorem VB.x {V : VE} {w W : World} (h : VB V w W) {j : Nat} (hj : j < V.n) : ∀ w' : World, Below W.heap.size W w' → Calls Yba.prog 25 #[.int .i32 (j : Int), .pointer (some ⟨w.heap.size, 0, none⟩), .pointer (some ⟨w.heap.size + 2, 0, none⟩)] w' fun e w'' => e = .returned (.int .u32 (V.X j)) ∧ Below W.heap.size W w'' :=
  fun w' hb => (x_any (V.env w.heap.size) (w.heap.size + 5) j w' (h.later (hb.mono h.env.big)).env hj).mono (fun e w'' h => ⟨h.1, hb.trans (h.2.mono hb.size)⟩)

set_option maxHeartbeats 8000000 in
theorem vars_leads {V : VE} {w : World} (hin : V.In w) (hnext : ∀ a W, RelV2 V w a W → (tail11 12).wp Yba.prog (bodyPost Yba.prog Yba.f11 (varsR V w)) a W) :
    ∀ a W, RelV0 V w a W → (tail11 6).wp Yba.prog (bodyPost Yba.prog Yba.f11 (varsR V w)) a W := by
  rintro a W ⟨x, rfl, hvb, h0⟩
  have hn4 := hin.n4
  have h0i : (0 : Int) < (V.n : Int) := by omega
  have HI : Aside (V.In w) := hin
  have HX : Aside (∀ a W, RelV2 V w a W → (tail11 12).wp Yba.prog (bodyPost Yba.prog Yba.f11 (varsR V w)) a W) := hnext
  unfold fv0
  conv => arg 2; whnf
  have k1 := hvb.env.cops
  simp only [VE.env] at k1
  have hmk := make_bool .i32 .i32 V.n (by omega) W
  obtain ⟨W1, hW1⟩ : ∃ W1, W1 = W.alloc (.cells (madeCells #[.bool false] V.n) 4) := ⟨_, rfl⟩
  have HR : Aside (W1.rowIs W.heap.size 4 V.n (fun _ => .bool false)) := by rw [hW1]; exact World.rowIs_made W (.bool false) V.n 4
  have HV : Aside (VB V w W1) := by rw [hW1]; exact hvb.later ((Below.refl _ _).alloc hvb.env.big _)
  rw [← hW1] at hmk
  have c1 := HR.out.cell h0
  have f1 := HR.out.frozen 0
  have hL := hvb.env.big
  obtain ⟨L, eL⟩ : ∃ L, L = W.heap.size := ⟨_, rfl⟩
  rw [← eL] at HR c1 f1 hL hmk
  have k2 : (W1.setCell ⟨L, 0, none⟩ (.bool true)).cell? ⟨w.heap.size + 1, 0, none⟩ = some (.slice (some ⟨V.gops, 0, none⟩) V.n V.n) :=
    cell_other HV.out.env.cops (by show w.heap.size + 1 ≠ L; omega) _
  clear hvb hin hnext hW1
  clear eL
  go_wp2
  clear c1 f1 k1 k2 hmk
  rename_i hK
  have hK' : ∀ a W, RelV2 V w a W → _ := fun a W h => hK a W (HX.out a W h)
  clear hK
  go_loopg [78] V.n (fun gk s78 wr => ∃ (j : Nat) (ld : Nat → Bool), j ≤ V.n ∧ gk = V.n - j ∧ s78 = .int .i64 (j : Int) ∧ VB V w wr ∧ wr.rowIs L 4 V.n (fun i => .bool (ld i)) ∧ ∀ i, i < V.n → (ld i = true ↔ Lead j V.kd V.tg i))
  case atStart =>
    refine ⟨0, fun i => decide (i = 0), by omega, rfl, rfl, HV.out.later ((Below.refl _ _).setCell hL _), (HR.out.set 0 _).congr (fun i _ => ?_), fun i _ => ?_⟩
    · by_cases c : i = 0 <;> simp [c]
    · rw [lead_zero]; exact decide_eq_true_iff
  case round =>
    clear HV HR
    obtain ⟨j, ld, hj, rfl, rfl, hvb, hrow, hld⟩ := hrel
    by_cases hlt : j < V.n
    · have hi4 : (j : Int) < (V.n : Int) := by omega
      have hop := hvb.env.ops j hlt
      simp only [VE.env] at hop
      have hkd := HI.out.kd9 j hlt
      obtain ⟨k, ek⟩ : ∃ k, k = V.kd j := ⟨_, rfl⟩
      rw [← ek] at hop hkd
      have A : Aside (VB V w wr ∧ wr.rowIs L 4 V.n (fun i => .bool (ld i)) ∧ (∀ i, i < V.n → (ld i = true ↔ Lead j V.kd V.tg i)) ∧ k = V.kd j) := ⟨hvb, hrow, hld, ek⟩
      have frz := hrow.frozen
      clear ek
      have hc : (k = 0 ∨ k = 1 ∨ k = 2 ∨ k = 8) ∨ (k = 6 ∨ k = 7) ∨ (k = 3 ∨ k = 4 ∨ k = 5) := by omega
      clear hkd
      rcases hc with hc | hc | hc
      · clear hvb hrow hld frz
        rcases hc with rfl | rfl | rfl | rfl
        all_goals
          simp only [opc] at hop
          go_wp2
          go_roundg (V.n - (j + 1))
          case measure => omega
          case rel =>
            obtain ⟨hvb, hrow, hld, ek⟩ := A.out
            refine ⟨j + 1, ld, by omega, rfl, by go_num, hvb, hrow, fun i hi => ?_⟩
            rw [hld i hi, lead_step]
            have n1 : ¬ jmp V.kd j := by unfold jmp; omega
            have n2 : ¬ ret V.kd j := by unfold ret; omega
            exact ⟨.inl, fun h => h.elim id (fun h => h.elim (fun h => absurd h.1 n1) (fun h => h.1.elim (fun h => absurd h n1) (fun h => absurd h n2)))⟩
      · by_cases hl2 : j + 1 < V.n
        · have hl2i : (j : Int) + 1 < (V.n : Int) := by omega
          have c1 := hrow.cell hl2
          have f1 := frz (j + 1)
          clear hvb hrow hld frz
          rcases hc with rfl | rfl
          all_goals
            simp only [opc] at hop
            go_wp2
            go_roundg (V.n - (j + 1))
            case measure => omega
            case rel =>
              obtain ⟨hvb, hrow, hld, ek⟩ := A.out
              refine ⟨j + 1, upd ld (j + 1) true, by omega, rfl, by go_num, hvb.later ((Below.refl _ _).setCell hL _), (hrow.set (j + 1) _).congr (fun i _ => ?_), fun i hi => ?_⟩
              · unfold upd; by_cases c : i = j + 1 <;> simp [c]
              · rw [lead_step]
                have n1 : ¬ jmp V.kd j := by unfold jmp; omega
                have n2 : ret V.kd j := by unfold ret; omega
                by_cases c : i = j + 1
                · subst c; rw [upd_same]; exact ⟨fun _ => .inr (.inr ⟨.inr n2, rfl⟩), fun _ => rfl⟩
                · rw [upd_ne c, hld i hi]
                  exact ⟨.inl, fun h => h.elim id (fun h => h.elim (fun h => absurd h.1 n1) (fun h => absurd h.2.symm c))⟩
        · have hl2i : (V.n : Int) = (j : Int) + 1 := by omega
          clear hvb hrow hld frz
          rcases hc with rfl | rfl
          all_goals
            simp only [opc] at hop
            go_wp2
            go_roundg (V.n - (j + 1))
            case measure => omega
            case rel =>
              obtain ⟨hvb, hrow, hld, ek⟩ := A.out
              refine ⟨j + 1, ld, by omega, rfl, by go_num, hvb, hrow, fun i hi => ?_⟩
              rw [hld i hi, lead_step]
              have n1 : ¬ jmp V.kd j := by unfold jmp; omega
              exact ⟨.inl, fun h => h.elim id (fun h => h.elim (fun h => absurd h.1 n1) (fun h => by have := h.2; omega))⟩
      · have hjm : jmp V.kd j := by have := A.out.2.2.2; unfold jmp; omega
        have HT := hvb.target HI.out hlt hjm
        obtain ⟨t, et⟩ : ∃ t, t = V.tg j := ⟨_, rfl⟩
        have htn : t < V.n := by rw [et]; exact (HI.out.tgn j hlt hjm).1
        have hti : (t : Int) < (V.n : Int) := by omega
        rw [← et] at HT
        have HC : Aside (Calls Yba.prog 29 #[.int .i32 (j : Int), .pointer (some ⟨w.heap.size + 3, 0, none⟩), .pointer (some ⟨w.heap.size + 4, 0, none⟩)] wr fun e w' => e = .returned (.int .i32 (t : Int)) ∧ Hid (Below wr.heap.size wr w') ∧ w'.cell? ⟨L, t, none⟩ = some (.bool (ld t)) ∧ w'.frozen? ⟨L, t, none⟩ = false ∧
            (j + 1 < V.n → (w'.setCell ⟨L, t, none⟩ (.bool true)).cell? ⟨L, j + 1, none⟩ = some (if j + 1 = t then .bool true else .bool (ld (j + 1)))) ∧ (w'.setCell ⟨L, t, none⟩ (.bool true)).frozen? ⟨L, j + 1, none⟩ = false) := by
          refine (HT wr (Below.refl _ _)).mono ?_
          rintro e w' ⟨rfl, hb⟩
          have hr := hrow.of_block (hb.block _ hrow.lt)
          exact ⟨rfl, hb, hr.cell htn, hr.frozen _, fun h => (hr.set t _).cell h, (hr.set t _).frozen _⟩
        have HE : Aside (t = V.tg j ∧ jmp V.kd j) := ⟨et, hjm⟩
        clear hvb hrow hld frz HT et hjm
        by_cases hl2 : j + 1 < V.n
        · have hl2i : (j : Int) + 1 < (V.n : Int) := by omega
          rcases hc with rfl | rfl | rfl
          all_goals
            simp only [opc] at hop
            go_wp2_with (go_at_call 29; refine Calls.mono HC.out ?_; rintro e w' ⟨rfl, hb, q1, q2, q3, q4⟩; replace q3 := q3 hl2)
            go_roundg (V.n - (j + 1))
            case measure => omega
            case rel =>
              obtain ⟨hvb, hrow, hld, ek⟩ := A.out
              obtain ⟨et, hjm⟩ := HE.out
              have hr := hrow.of_block (hb.out.block _ hrow.lt)
              refine ⟨j + 1, upd (upd ld t true) (j + 1) true, by omega, rfl, by go_num, (hvb.later (hb.out.mono hvb.env.big)).later (((Below.refl _ _).setCell hL _).setCell hL _), ((hr.set t _).set (j + 1) _).congr (fun i _ => ?_), fun i hi => ?_⟩
              · unfold upd; by_cases c : i = j + 1 <;> by_cases c2 : i = t <;> simp [c, c2]
              · rw [lead_step]
                by_cases c : i = j + 1
                · subst c; rw [upd_same]; exact ⟨fun _ => .inr (.inr ⟨.inl hjm, rfl⟩), fun _ => rfl⟩
                · rw [upd_ne c]
                  by_cases c2 : i = t
                  · subst c2; rw [upd_same]; exact ⟨fun _ => .inr (.inl ⟨hjm, et.symm⟩), fun _ => rfl⟩
                  · rw [upd_ne c2, hld i hi]
                    exact ⟨.inl, fun h => h.elim id (fun h => h.elim (fun h => absurd (et.trans h.2).symm c2) (fun h => absurd h.2.symm c))⟩
        · have hl2i : ¬ ((j : Int) + 1 < (V.n : Int)) := by omega
          rcases hc with rfl | rfl | rfl
          all_goals
            simp only [opc] at hop
            go_wp2_with (go_at_call 29; refine Calls.mono HC.out ?_; rintro e w' ⟨rfl, hb, q1, q2, q3, q4⟩; clear q3 q4)
            go_roundg (V.n - (j + 1))
            case measure => omega
            case rel =>
              obtain ⟨hvb, hrow, hld, ek⟩ := A.out
              obtain ⟨et, hjm⟩ := HE.out
              have hr := hrow.of_block (hb.out.block _ hrow.lt)
              refine ⟨j + 1, upd ld t true, by omega, rfl, by go_num, (hvb.later (hb.out.mono hvb.env.big)).later ((Below.refl _ _).setCell hL _), (hr.set t _).congr (fun i _ => ?_), fun i hi => ?_⟩
              · unfold upd; by_cases c2 : i = t <;> simp [c2]
              · rw [lead_step]
                by_cases c2 : i = t
                · subst c2; rw [upd_same]; exact ⟨fun _ => .inr (.inl ⟨hjm, et.symm⟩), fun _ => rfl⟩
                · rw [upd_ne c2, hld i hi]
                  exact ⟨.inl, fun h => h.elim id (fun h => h.elim (fun h => absurd (et.trans h.2).symm c2) (fun h => by have := h.2; omega))⟩
    · obtain rfl : j = V.n := by omega
      have A : Aside (VB V w wr ∧ wr.rowIs L 4 V.n (fun i => .bool (ld i)) ∧ ∀ i, i < V.n → (ld i = true ↔ Lead V.n V.kd V.tg i)) := ⟨hvb, hrow, hld⟩
      clear hvb hrow hld hlt
      go_wp2
      obtain ⟨hvb, hrow, hld⟩ := A.out
      exact RelV2.mk rfl hvb h0 hrow hL hld
end Go.Proofs.Ybulkexnju.W
