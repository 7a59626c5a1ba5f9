/-
  The law: the clones, watchedVars, the successors of the instructions.
-/
import Derived.Test.YbulkexnjuLawD
namespace Go.Proofs.Ybulkexnju.W
open Go.RowKit Go.Proofs.Ybulkexnju.G
set_option linter.unusedVariables false
set_option maxRecDepth 100000

theorem LB.c0 {d : LD} {W : World} (h : LB d d.n d.n W) {i : Nat} (hi : i < d.n) : W.cell? ⟨d.H, i, none⟩ = some (.int .u8 (opc (d.kd i))) := by rw [h.r0.cell hi, if_pos hi]
theorem LB.c1 {d : LD} {W : World} (h : LB d d.n d.n W) {i : Nat} (hi : i < d.n) : W.cell? ⟨d.H + 1, i, none⟩ = some (.int .i64 (5 * (i : Int))) := by rw [h.r1.cell hi, if_pos hi]
theorem LB.c2 {d : LD} {W : World} (h : LB d d.n d.n W) {i : Nat} (hi : i < 5 * d.n) : W.cell? ⟨d.H + 2, i, none⟩ = some (.int .u8 (codeV d i)) := by rw [h.r2.cell hi, if_pos hi]
theorem LB.c3 {d : LD} {W : World} (h : LB d d.n d.n W) {i : Nat} (hi : i < 5 * d.n) : W.cell? ⟨d.H + 3, i, none⟩ = some (.int .i32 (idxV i)) := by rw [h.r3.cell hi, if_pos hi]
theorem LB.c4 {d : LD} {W : World} (h : LB d d.n d.n W) {i : Nat} (hi : i < d.n) : W.cell? ⟨d.H + 4, i, none⟩ = some (.int .i64 (d.kd i : Int)) := by rw [h.r4.cell hi, if_pos hi]
theorem LB.c5 {d : LD} {W : World} (h : LB d d.n d.n W) {i : Nat} (hi : i < d.n) : W.cell? ⟨d.H + 5, i, none⟩ = some (.int .i64 (d.X i : Int)) := by rw [h.r5.cell hi, if_pos hi]

theorem succ_rowI {Su M j : Nat} {sc : Nat → Int} {W : World} {a b : Int} (h : W.rowIs Su 76 M (fun e => .int .i64 (if e < 2 * j then sc e else 0))) (ha : sc (2 * j + 0) = a) (hb : sc (2 * j + 1) = b) :
    ((W.setCell ⟨Su, j * 2, none⟩ (.int .i64 a)).setCell ⟨Su, j * 2 + 1, none⟩ (.int .i64 b)).rowIs Su 76 M (fun e => .int .i64 (if e < 2 * (j + 1) then sc e else 0)) := by
  refine ((h.set (j * 2) _).set (j * 2 + 1) _).congr (fun e _ => ?_)
  by_cases c1 : e = j * 2 + 1
  · rw [if_pos c1, if_pos (by omega), show e = 2 * j + 1 by omega, hb]
  · rw [if_neg c1]
    by_cases c2 : e = j * 2
    · rw [if_pos c2, if_pos (by omega), show e = 2 * j + 0 by omega, ha]
    · rw [if_neg c2]
      by_cases c3 : e < 2 * j
      · rw [if_pos c3, if_pos (by omega)]
      · rw [if_neg c3, if_neg (by omega)]

theorem made2 (n i : Nat) (hi : i < n) : (madeCells #[Value.int .i64 0, Value.int .i64 0] n)[i]? = some (.int .i64 0) := by
  unfold madeCells
  simp [hi]
  rcases Nat.mod_two_eq_zero_or_one i with h | h <;> simp [h]

set_option maxHeartbeats 16000000 in
theorem law_look {d : LD} (hd : d.Ok) (hnext : ∀ a W, RelL2 d a W → (tail4 20).wp Yba.prog (bodyPost Yba.prog Yba.f4 (lawR d.w)) a W) :
    ∀ a W, RelL1 d a W → (tail4 12).wp Yba.prog (bodyPost Yba.prog Yba.f4 (lawR d.w)) a W := by
  rintro a W ⟨x, rfl, hlb⟩
  have hn4 := hd.n4
  have hns8 := hd.ns8
  have HD : Aside d.Ok := hd
  have HX : Aside (∀ a W, RelL2 d a W → (tail4 20).wp Yba.prog (bodyPost Yba.prog Yba.f4 (lawR d.w)) a W) := hnext
  obtain ⟨H, eH⟩ : ∃ H, H = d.H := ⟨_, rfl⟩
  obtain ⟨m5, hm5⟩ : ∃ m5, m5 = 5 * d.n := ⟨_, rfl⟩
  have E : Aside (H = d.H ∧ m5 = 5 * d.n) := ⟨eH, hm5⟩
  have HL : Aside (LB d d.n d.n W) := hlb
  have C7 : Aside (Calls Yba.prog 7 #[.slice (some ⟨H, 0, none⟩) d.n d.n] W _) := clone7_any H d.n (fun i => opc (d.kd i)) W (by omega) (fun i hi => by rw [eH]; exact hlb.c0 hi)
  unfold fl
  rw [← hm5, ← eH]
  clear hlb hd hnext hm5 eH
  conv => arg 2; whnf
  go_wp2_with (go_at_call 7; refine Calls.mono C7.out ?_; rintro e w1 ⟨g7, cap7, rfl, k7, hb1⟩)
  have K7 : Aside (∀ i, i < d.n → w1.cell? ⟨g7, i, none⟩ = some (.int .u8 (opc (d.kd i)))) := k7
  have HL1 : Aside (LB d d.n d.n w1) := HL.out.later (hb1.mono HL.out.big)
  clear k7 hb1 C7 HL
  have C8 : Aside (Calls Yba.prog 8 #[.slice (some ⟨H + 1, 0, none⟩) d.n d.n] w1 _) := clone8_any (H + 1) d.n (fun i => 5 * (i : Int)) w1 (by omega) (fun i hi => by rw [E.out.1]; exact HL1.out.c1 hi)
  go_wp2_with (go_at_call 8; refine Calls.mono C8.out ?_; rintro e w2 ⟨g8, cap8, rfl, k8, hb2⟩)
  have K8 : Aside ((∀ i, i < d.n → w2.cell? ⟨g7, i, none⟩ = some (.int .u8 (opc (d.kd i)))) ∧ (∀ i, i < d.n → w2.cell? ⟨g8, i, none⟩ = some (.int .i64 (5 * (i : Int))))) := ⟨fun i hi => cell_later hb2 (K7.out i hi), k8⟩
  have HL2 : Aside (LB d d.n d.n w2) := HL1.out.later (hb2.mono HL1.out.big)
  clear k8 hb2 C8 HL1 K7
  have C9 : Aside (Calls Yba.prog 9 #[.slice (some ⟨H + 3, 0, none⟩) m5 m5] w2 _) := clone9_any (H + 3) m5 idxV w2 (by have := E.out.2; omega) (fun i hi => by rw [E.out.1]; exact HL2.out.c3 (by rw [← E.out.2]; exact hi))
  go_wp2_with (go_at_call 9; refine Calls.mono C9.out ?_; rintro e w3 ⟨g9, cap9, rfl, k9, hb3⟩)
  have K9 : Aside ((∀ i, i < d.n → w3.cell? ⟨g7, i, none⟩ = some (.int .u8 (opc (d.kd i)))) ∧ (∀ i, i < d.n → w3.cell? ⟨g8, i, none⟩ = some (.int .i64 (5 * (i : Int)))) ∧ (∀ i, i < m5 → w3.cell? ⟨g9, i, none⟩ = some (.int .i32 (idxV i)))) := ⟨fun i hi => cell_later hb3 (K8.out.1 i hi), fun i hi => cell_later hb3 (K8.out.2 i hi), k9⟩
  have HL3 : Aside (LB d d.n d.n w3) := HL2.out.later (hb3.mono HL2.out.big)
  clear k9 hb3 C9 HL2 K8
  have C10 : Aside (Calls Yba.prog 10 #[.slice (some ⟨H + 2, 0, none⟩) m5 m5] w3 _) := clone10_any (H + 2) m5 (codeV d) w3 (by have := E.out.2; omega) (fun i hi => by rw [E.out.1]; exact HL3.out.c2 (by rw [← E.out.2]; exact hi))
  have k68 := make68 .i64 .i64 d.ns (by omega)
  go_wp2_with (go_at_call 10; refine Calls.mono C10.out ?_; rintro e w4 ⟨g10, cap10, rfl, k10, hb4⟩)
  have HV : Aside (Calls Yba.prog 11 #[.pointer (some ⟨w4.heap.size + 1, 0, none⟩), .slice (some ⟨H, 0, none⟩) d.n d.n, .slice (some ⟨H + 1, 0, none⟩) d.n d.n, .slice (some ⟨H + 3, 0, none⟩) m5 m5] ((w4.alloc (.cells (madeCells #[.int .u32 0] d.ns) 70)).alloc (.cells #[.string { data := #[] }, .int .i64 d.np, .slice (some ⟨w4.heap.size, 0, none⟩) d.ns d.ns, .int .u32 0, .slice (some ⟨H + 2, 0, none⟩) m5 m5, .slice none 0 0] 73))
      fun e w' => ∃ r, e = .returned r ∧ Hid (LQ d g7 g8 g9 g10 (w4.heap.size + 1) w4.heap.size r w')) := by
    obtain ⟨eH, hm5⟩ := E.out
    have hL4 : LB d d.n d.n w4 := HL3.out.later (hb4.mono HL3.out.big)
    obtain ⟨W6, hW6⟩ : ∃ W6, W6 = (w4.alloc (.cells (madeCells #[.int .u32 0] d.ns) 70)).alloc (.cells #[.string { data := #[] }, .int .i64 d.np, .slice (some ⟨w4.heap.size, 0, none⟩) d.ns d.ns, .int .u32 0, .slice (some ⟨H + 2, 0, none⟩) m5 m5, .slice none 0 0] 73) := ⟨_, rfl⟩
    have hb6 : Below w4.heap.size w4 W6 := by rw [hW6]; exact ((Below.refl _ _).alloc (Nat.le_refl _) _).alloc (by simp) _
    have hL6 : LB d d.n d.n W6 := hL4.later (hb6.mono hL4.big)
    have hs6 : w4.heap.size < W6.heap.size := by rw [hW6, World.size_alloc, World.size_alloc]; omega
    have row := World.rowIs_alloc (w4.alloc (.cells (madeCells #[.int .u32 0] d.ns) 70)) #[.string { data := #[] }, .int .i64 d.np, .slice (some ⟨w4.heap.size, 0, none⟩) d.ns d.ns, .int .u32 0, .slice (some ⟨H + 2, 0, none⟩) m5 m5, .slice none 0 0] 73
      (fun j => if j = 1 then .int .i64 d.np else if j = 2 then .slice (some ⟨w4.heap.size, 0, none⟩) d.ns d.ns else if j = 4 then .slice (some ⟨H + 2, 0, none⟩) m5 m5 else if j = 0 then .string { data := #[] } else if j = 3 then .int .u32 0 else .slice none 0 0) (fun j hj => by
        have : j = 0 ∨ j = 1 ∨ j = 2 ∨ j = 3 ∨ j = 4 ∨ j = 5 := by simp at hj; omega
        rcases this with e | e | e | e | e | e <;> subst e <;> rfl)
    rw [← hW6] at row
    simp only [World.size_alloc] at row
    have fp : W6.cell? ⟨w4.heap.size + 1, 1, none⟩ = some (.int .i64 d.np) := row.cell (i := 1) (by simp)
    have fs : W6.cell? ⟨w4.heap.size + 1, 2, none⟩ = some (.slice (some ⟨w4.heap.size, 0, none⟩) d.ns d.ns) := row.cell (i := 2) (by simp)
    have fc : W6.cell? ⟨w4.heap.size + 1, 4, none⟩ = some (.slice (some ⟨H + 2, 0, none⟩) m5 m5) := row.cell (i := 4) (by simp)
    rw [eH, hm5] at fc
    rw [← hW6]
    have hin : (d.V (w4.heap.size + 1) w4.heap.size).In W6 := HD.out.vin hL6 fp fs fc hs6
    have hv := vars_any hin
    rw [eH, hm5]
    refine hv.mono ?_
    rintro e w7 ⟨r, rfl, hb7, hr⟩
    refine ⟨r, rfl, ⟨hL6.later (hb7.mono hL6.big), fun i hi => cell_later hb7 (cell_later hb6 (cell_later hb4 (K9.out.1 i hi))), fun i hi => cell_later hb7 (cell_later hb6 (cell_later hb4 (K9.out.2.1 i hi))), fun i hi => cell_later hb7 (cell_later hb6 (cell_later hb4 (K9.out.2.2 i (by rw [hm5]; exact hi)))), fun i hi => cell_later hb7 (cell_later hb6 (k10 i (by rw [hm5]; exact hi))), cell_later hb7 fp, cell_later hb7 fs, cell_later hb7 fc, ?_⟩⟩
    rcases hr with ⟨h1, h2⟩ | ⟨b, f, h1, h2, h3, h4⟩
    · exact .inl ⟨h1, h2⟩
    · exact .inr ⟨b, f, h1, fun x hx => h2.cell hx, h3, h4⟩
  clear C10 k10 hb4 HL3 K9 k68
  have k75 := make75 .i64 .i64 d.n (by omega)
  go_wp2_with (go_at_call 11; refine Calls.mono HV.out ?_; rintro e w7 ⟨r, rfl, hq⟩)
  clear k75 HV
  have HR : Aside ((w7.alloc (.cells (madeCells #[.int .i64 0, .int .i64 0] (d.n * 2)) 76)).rowIs w7.heap.size 76 (2 * d.n) (fun _ => .int .i64 0)) := by
    have h := World.rowIs_alloc w7 (madeCells #[.int .i64 0, .int .i64 0] (d.n * 2)) 76 (fun _ => .int .i64 0) (fun i hi => made2 (d.n * 2) i (by rwa [size_madeCells] at hi))
    rw [size_madeCells, Nat.mul_comm] at h
    rw [Nat.mul_comm]
    exact h
  obtain ⟨W8, hW8⟩ : ∃ W8, W8 = w7.alloc (.cells (madeCells #[.int .i64 0, .int .i64 0] (d.n * 2)) 76) := ⟨_, rfl⟩
  have HB : Aside (Below w7.heap.size w7 W8) := by rw [hW8]; exact (Below.refl _ _).alloc (Nat.le_refl _) _
  rw [← hW8] at HR ⊢
  clear hW8
  obtain ⟨Su, eSu⟩ : ∃ Su, Su = w7.heap.size := ⟨_, rfl⟩
  have ESU : Aside (Su = w7.heap.size) := eSu
  rw [← eSu] at HR HB ⊢
  clear eSu
  rename_i hK
  have hK' : ∀ a W, RelL2 d a W → _ := fun a W h => hK a W (HX.out a W h)
  clear hK
  go_loopg [28] d.n (fun gk s28 wr => ∃ j : Nat, j ≤ d.n ∧ gk = d.n - j ∧ s28 = .int .i64 (j : Int) ∧ Below Su w7 wr ∧ wr.rowIs Su 76 (2 * d.n) (fun e => .int .i64 (if e < 2 * j then sI d.n d.kd d.tg e else 0)))
  case atStart => exact ⟨0, by omega, rfl, rfl, HB.out, HR.out.congr (fun i _ => by simp)⟩
  case round =>
    clear HB HR
    obtain ⟨j, hj, rfl, rfl, hbel, hrow⟩ := hrel
    by_cases hlt : j < d.n
    · have hi4 : (j : Int) < (d.n : Int) := by omega
      have hl7 := hq.out.lb
      have cK : wr.cell? ⟨H + 4, j, none⟩ = some (.int .i64 (d.kd j : Int)) := by rw [E.out.1]; exact cell_later (ESU.out ▸ hbel) (hl7.c4 hlt)
      have cX : wr.cell? ⟨H + 5, j, none⟩ = some (.int .i64 (d.X j : Int)) := by rw [E.out.1]; exact cell_later (ESU.out ▸ hbel) (hl7.c5 hlt)
      have A2 : Aside (Below Su w7 wr ∧ wr.rowIs Su 76 (2 * d.n) (fun e => .int .i64 (if e < 2 * j then sI d.n d.kd d.tg e else 0))) := ⟨hbel, hrow⟩
      have s0 := hrow.cell (i := j * 2) (by omega)
      have s1 := hrow.cell (i := j * 2 + 1) (by omega)
      have z0 := hrow.frozen (j * 2)
      have z1 := hrow.frozen (j * 2 + 1)
      obtain ⟨k, ek⟩ : ∃ k, k = d.kd j := ⟨_, rfl⟩
      rw [← ek] at cK
      have EK : Aside (k = d.kd j) := ek
      have hk9 : k < 9 := by rw [ek]; show d.O j % 9 < 9; omega
      have hX : (k = 3 ∨ k = 4 ∨ k = 5) → d.X j = 5 * d.tg j := by
        intro hk
        rw [ek] at hk
        have hk' : kdV d.O j = 3 ∨ kdV d.O j = 4 ∨ kdV d.O j = 5 := hk
        show xV d.n d.ns d.O d.A j = 5 * (d.A j % d.n)
        unfold xV
        rw [if_neg (by omega), if_pos (by omega)]
      have hc : (k = 6 ∨ k = 7) ∨ k = 3 ∨ (k = 4 ∨ k = 5) ∨ (k = 0 ∨ k = 1 ∨ k = 2 ∨ k = 8) := by omega
      clear hl7 hbel hrow ek
      rcases hc with hc | hc | hc | hc
      · clear hX
        rcases hc with rfl | rfl
        all_goals
          first
            | rw [show ((6 : Nat) : Int) = 6 from rfl] at cK
            | rw [show ((7 : Nat) : Int) = 7 from rfl] at cK
          go_wp2
          go_roundg (d.n - (j + 1))
          case measure => omega
          case rel =>
            obtain ⟨hbel, hrow⟩ := A2.out
            have ek := EK.out
            refine ⟨j + 1, by omega, rfl, by go_num, hbel.trans (two_sets _ _ _ _ _ _), succ_rowI hrow ?_ ?_⟩
            · rw [sI0]
              unfold aI
              rw [if_pos (by omega)]
            · rw [sI1]
              unfold bI
              rw [if_neg (by omega)]
      · subst hc
        obtain ⟨t, et⟩ : ∃ t, t = d.tg j := ⟨_, rfl⟩
        rw [hX (by omega), ← et, show ((5 * t : Nat) : Int) = 5 * (t : Int) by omega] at cX
        have q1 : (5 * (t : Int)).tdiv 5 = (t : Int) := Int.mul_tdiv_cancel_left _ (by decide)
        have q2 : 5 * (t : Int) / 5 = (t : Int) := by omega
        have htn : t < d.n := by rw [et]; exact Nat.mod_lt _ (by omega)
        have ht4 : (t : Int) < 4096 := by omega
        have ET : Aside (t = d.tg j) := et
        clear hX et
        all_goals
          first
            | rw [show ((3 : Nat) : Int) = 3 from rfl] at cK
          go_wp2
          go_roundg (d.n - (j + 1))
          case measure => omega
          case rel =>
            obtain ⟨hbel, hrow⟩ := A2.out
            have ek := EK.out
            refine ⟨j + 1, by omega, rfl, by go_num, hbel.trans (two_sets _ _ _ _ _ _), succ_rowI hrow ?_ ?_⟩
            · rw [sI0]
              unfold aI
              rw [if_neg (by omega), if_pos (by omega), ← ET.out]
            · rw [sI1]
              unfold bI
              rw [if_neg (by omega)]
      · obtain ⟨t, et⟩ : ∃ t, t = d.tg j := ⟨_, rfl⟩
        rw [hX (by omega), ← et, show ((5 * t : Nat) : Int) = 5 * (t : Int) by omega] at cX
        have q1 : (5 * (t : Int)).tdiv 5 = (t : Int) := Int.mul_tdiv_cancel_left _ (by decide)
        have q2 : 5 * (t : Int) / 5 = (t : Int) := by omega
        have htn : t < d.n := by rw [et]; exact Nat.mod_lt _ (by omega)
        have ht4 : (t : Int) < 4096 := by omega
        have ET : Aside (t = d.tg j) := et
        clear hX et
        by_cases hl2 : j + 1 < d.n
        · have hl2i : (j : Int) + 1 < (d.n : Int) := by omega
          rcases hc with rfl | rfl
          all_goals
            first
              | rw [show ((4 : Nat) : Int) = 4 from rfl] at cK
              | rw [show ((5 : Nat) : Int) = 5 from rfl] at cK
            go_wp2
            go_roundg (d.n - (j + 1))
            case measure => omega
            case rel =>
              obtain ⟨hbel, hrow⟩ := A2.out
              have ek := EK.out
              refine ⟨j + 1, by omega, rfl, by go_num, hbel.trans (two_sets _ _ _ _ _ _), succ_rowI hrow ?_ ?_⟩
              · rw [sI0]
                unfold aI
                rw [if_neg (by omega), if_neg (by omega), if_pos hl2]; omega
              · rw [sI1]
                unfold bI
                rw [if_pos (by omega), ← ET.out]
        · have hl2i : ¬ ((j : Int) + 1 < (d.n : Int)) := by omega
          rcases hc with rfl | rfl
          all_goals
            first
              | rw [show ((4 : Nat) : Int) = 4 from rfl] at cK
              | rw [show ((5 : Nat) : Int) = 5 from rfl] at cK
            go_wp2
            go_roundg (d.n - (j + 1))
            case measure => omega
            case rel =>
              obtain ⟨hbel, hrow⟩ := A2.out
              have ek := EK.out
              refine ⟨j + 1, by omega, rfl, by go_num, hbel.trans (two_sets _ _ _ _ _ _), succ_rowI hrow ?_ ?_⟩
              · rw [sI0]
                unfold aI
                rw [if_neg (by omega), if_neg (by omega), if_neg hl2]
              · rw [sI1]
                unfold bI
                rw [if_pos (by omega), ← ET.out]
      · clear hX
        by_cases hl2 : j + 1 < d.n
        · have hl2i : (j : Int) + 1 < (d.n : Int) := by omega
          rcases hc with rfl | rfl | rfl | rfl
          all_goals
            first
              | rw [show ((0 : Nat) : Int) = 0 from rfl] at cK
              | rw [show ((1 : Nat) : Int) = 1 from rfl] at cK
              | rw [show ((2 : Nat) : Int) = 2 from rfl] at cK
              | rw [show ((8 : Nat) : Int) = 8 from rfl] at cK
            go_wp2
            go_roundg (d.n - (j + 1))
            case measure => omega
            case rel =>
              obtain ⟨hbel, hrow⟩ := A2.out
              have ek := EK.out
              refine ⟨j + 1, by omega, rfl, by go_num, hbel.trans (two_sets _ _ _ _ _ _), succ_rowI hrow ?_ ?_⟩
              · rw [sI0]
                unfold aI
                rw [if_neg (by omega), if_neg (by omega), if_pos hl2]; omega
              · rw [sI1]
                unfold bI
                rw [if_neg (by omega)]
        · have hl2i : ¬ ((j : Int) + 1 < (d.n : Int)) := by omega
          rcases hc with rfl | rfl | rfl | rfl
          all_goals
            first
              | rw [show ((0 : Nat) : Int) = 0 from rfl] at cK
              | rw [show ((1 : Nat) : Int) = 1 from rfl] at cK
              | rw [show ((2 : Nat) : Int) = 2 from rfl] at cK
              | rw [show ((8 : Nat) : Int) = 8 from rfl] at cK
            go_wp2
            go_roundg (d.n - (j + 1))
            case measure => omega
            case rel =>
              obtain ⟨hbel, hrow⟩ := A2.out
              have ek := EK.out
              refine ⟨j + 1, by omega, rfl, by go_num, hbel.trans (two_sets _ _ _ _ _ _), succ_rowI hrow ?_ ?_⟩
              · rw [sI0]
                unfold aI
                rw [if_neg (by omega), if_neg (by omega), if_neg hl2]
              · rw [sI1]
                unfold bI
                rw [if_neg (by omega)]
    · obtain rfl : j = d.n := by omega
      have A2 : Aside (Below Su w7 wr ∧ wr.rowIs Su 76 (2 * d.n) (fun e => .int .i64 (if e < 2 * d.n then sI d.n d.kd d.tg e else 0))) := ⟨hbel, hrow⟩
      clear hbel hrow hlt
      go_wp2
      obtain ⟨eH, hm5⟩ := E.out
      have eSu := ESU.out
      subst eSu
      exact RelL2.mk (by unfold frL2; rw [← eH, ← hm5]; rfl) hq.out A2.out.1 (A2.out.2.congr (fun e he => by rw [if_pos he]))
end Go.Proofs.Ybulkexnju.W
