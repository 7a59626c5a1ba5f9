/-
  watchedVars: one instruction of a block that is begun: does it read a slot that is not set?
-/
import Derived.Test.YbulkexnjuVarsI
namespace Go.Proofs.Ybulkexnju.W
open Go.RowKit Go.Proofs.Ybulkexnju.G
set_option linter.unusedVariables false
set_option maxRecDepth 100000

theorem eql_nil (w : World) : (binOp .eql 23 (.slice none 0 0) (.slice none 0 0)).run Yba.prog w = .ok (.bool true) w := by
  rw [run_eql_nil_slice w 23 4 none 0 0 0 0 Yba.underlying23]; rfl
theorem eql_not (a : Addr) (n m : Nat) (w : World) : (binOp .eql 23 (.slice (some a) n m) (.slice none 0 0)).run Yba.prog w = .ok (.bool false) w := by
  rw [Lib.run_eql_slice_nil w 23 4 (some a) n m 0 0 Yba.underlying23]; rfl

set_option maxHeartbeats 16000000 in
theorem visit_A {c : WC} {k : Nat} {t : List Int} {vis : Nat → Bool} {i : Nat} (hat : At c k t vis i) {Q : Exit → Act → World → Prop} (hnext : ∀ a W, RelI c k t vis i i (i + 1) a W → Q .normal a W) :
    ∀ a W, RelI c k t vis i i i a W → (leftOf V9).wp Yba.prog Q a W := by
  rintro a W ⟨x, v37, rfl, hkw⟩
  have HC : Aside (At c k t vis i) := hat
  have HX : Aside (∀ a W, RelI c k t vis i i (i + 1) a W → Q .normal a W) := hnext
  have hin := hat.n
  have hn4 := hat.ok.inn.n4
  have hns := hat.ok.inn.ns8
  have hi4 : (i : Int) < 4096 := by omega
  have HRd : Aside _ := hkw.fx.vb.reads hin
  have A2 : Aside (KW c (c.cnI k (opens t) i) (todoV t) t.length (c.PI k vis i) v37 W) := hkw
  obtain ⟨rv, erv⟩ : ∃ rv, rv = c.V.rd i := ⟨_, rfl⟩
  rw [← erv] at HRd
  have ER : Aside (rv = c.V.rd i) := erv
  cases rv with
  | false =>
    clear hkw erv hat hnext
    unfold frW fw
    conv => arg 2; whnf
    go_wp2_with (go_at_call 27; refine Calls.mono HRd.out ?_; rintro e w' ⟨rfl, rfl⟩)
    refine HX.out _ _ (RelI.mk rfl (A2.out.congr (fun x _ => rfl) (fun x => ?_)))
    rw [WC.PI_succ HC.out.lo]
    exact ⟨.inl, fun h => h.elim id (fun h => by rw [← ER.out] at h; cases h.1)⟩
  | true =>
    have hxs := hat.ok.inn.xrd hin erv.symm
    obtain ⟨xi, exi⟩ : ∃ xi, xi = c.V.X i := ⟨_, rfl⟩
    have EXI : Aside (xi = c.V.X i) := exi
    have hx := hkw.fx.vb.x hin W (Below.refl _ _)
    rw [← exi] at hxs hx
    have hxi : (xi : Int) < (c.V.ns : Int) := by omega
    have hs0 := hat.small xi
    have hz := hat.zero
    rw [← exi] at hz
    obtain ⟨dv, edv⟩ : ∃ dv, dv = c.cnI k (opens t) i xi := ⟨_, rfl⟩
    rw [← edv] at hz
    have HZ : Aside (dv = 0 ↔ Unset (EN c.sc c.ord c.K) c.st c.ord c.V.sg c.V.X c.V.np k i) := hz
    have hdv : (dv : Int) < 20000000 := by omega
    have hvb : ∀ w', Below W.heap.size W w' → VB c.V c.w w' := fun w' hb => hkw.fx.vb.later (hb.mono hkw.fx.vb.env.big)
    have HXC : Aside (Calls Yba.prog 25 #[.int .i32 (i : Int), .pointer (some ⟨c.w.heap.size, 0, none⟩), .pointer (some ⟨c.w.heap.size + 2, 0, none⟩)] W fun e w' => e = .returned (.int .u32 (xi : Int)) ∧ Hid (Below W.heap.size W w') ∧ w'.cell? ⟨c.Se, xi, none⟩ = some (.int .i32 (dv : Int)) ∧
        w'.cell? ⟨c.w.heap.size, 0, none⟩ = some (.pointer (some ⟨c.V.gf, 0, none⟩)) ∧ w'.cell? ⟨c.V.gf, 2, none⟩ = some (.slice (some ⟨c.V.gs, 0, none⟩) c.V.ns c.V.ns) ∧ w'.cell? ⟨c.w.heap.size + 4, 0, none⟩ = some (.func (Fn.func 25) #[] #[.pointer (some ⟨c.w.heap.size, 0, none⟩), .pointer (some ⟨c.w.heap.size + 2, 0, none⟩)]) ∧
        (w'.alloc (.cells (madeCells #[.bool false] c.V.ns) 4)).cell? ⟨c.w.heap.size + 4, 0, none⟩ = some (.func (Fn.func 25) #[] #[.pointer (some ⟨c.w.heap.size, 0, none⟩), .pointer (some ⟨c.w.heap.size + 2, 0, none⟩)])) := by
      refine hx.mono ?_
      rintro e1 w' ⟨rfl, hb⟩
      have hk2 := hkw.later hb
      have h3 := hvb w' hb
      have h4 : VB c.V c.w (w'.alloc (.cells (madeCells #[.bool false] c.V.ns) 4)) := h3.later ((Below.refl _ _).alloc h3.env.big _)
      refine ⟨rfl, hb, ?_, h3.env.cf, h3.env.fs, h3.env.cx, h4.env.cx⟩
      rw [hk2.rc.cell hxs, ← edv]
    have cx := hkw.fx.vb.env.cx
    simp only [VE.env] at cx
    by_cases hd0 : dv = 0
    · subst hd0
      have hU := HZ.out.1 rfl
      have HU : Aside (∀ x, c.PI k vis (i + 1) x ↔ c.PI k vis i x ∨ x = xi) := by
        intro x
        rw [WC.PI_succ hat.lo]
        constructor
        · rintro (h | h)
          · exact .inl h
          · exact .inr (by rw [exi]; exact h.2.1.symm)
        · rintro (h | h)
          · exact .inl h
          · exact .inr ⟨erv.symm, by rw [h, exi], hU⟩
      rcases hkw.wt with ⟨rfl, hno⟩ | ⟨b, f, rfl, hf1, hf2, hf3, hf4, hf5, hf6⟩
      · have HNO : Aside (∀ x, ¬ c.PI k vis i x) := hno
        have HXB : Aside (∀ w1, Below W.heap.size W w1 → Calls Yba.prog 25 #[.int .i32 (i : Int), .pointer (some ⟨c.w.heap.size, 0, none⟩), .pointer (some ⟨c.w.heap.size + 2, 0, none⟩)] (w1.alloc (.cells (madeCells #[.bool false] c.V.ns) 4)) fun e w' => e = .returned (.int .u32 (xi : Int)) ∧
            Hid (KW c (c.cnI k (opens t) i) (todoV t) t.length (c.PI k vis i) (.slice none 0 0) w' ∧ w'.rowIs w1.heap.size 4 c.V.ns (fun _ => .bool false) ∧ c.Td < w1.heap.size) ∧ w'.cell? ⟨w1.heap.size, xi, none⟩ = some (.bool false) ∧ w'.frozen? ⟨w1.heap.size, xi, none⟩ = false) := by
          intro w1 hb1
          have hk1 := hkw.later hb1
          have hk2 := hk1.later ((Below.refl _ _).alloc (Nat.le_refl _) (.cells (madeCells #[.bool false] c.V.ns) 4))
          have hr := World.rowIs_made w1 (.bool false) c.V.ns 4
          have hx2 := hk2.fx.vb.x hin _ (Below.refl _ _)
          rw [← exi] at hx2
          refine hx2.mono ?_
          rintro e1 w' ⟨rfl, hb⟩
          have hr2 := hr.of_block (hb.block _ hr.lt)
          exact ⟨rfl, ⟨hk2.later hb, hr2, (hk1.rt.lt c.Td rfl).2⟩, hr2.cell hxs, hr2.frozen _⟩
        have hmk := make_bool .i64 .i64 c.V.ns (by omega)
        have heq : ∀ w : World, (binOp .eql 23 (.slice none 0 0) (.slice none 0 0)).run Yba.prog w = .ok (.bool true) w := eql_nil
        clear hkw erv exi hx hs0 edv hat hnext hvb hz hno hU
        unfold frW fw
        conv => arg 2; whnf
        go_wp2_with (first | (go_at_call 27; refine Calls.mono HRd.out ?_; rintro e w' ⟨rfl, rfl⟩) | (go_at_call 25; refine Calls.mono HXC.out ?_; rintro e w' ⟨rfl, hb, q1, q2, q3, q4, q5⟩) | (go_at_call 25; refine Calls.mono (HXB.out _ hb.out) ?_; rintro e w'' ⟨rfl, hq, q6, q7⟩))
        obtain ⟨hk3, hr3, htd⟩ := hq.out
        have hlt := hk3.rc.lt
        have hse := HC.out.ok.td
        refine HX.out _ _ (RelI.mk rfl (hk3.other (by omega) (by omega) (by omega) _ _ (.inr ⟨w'.heap.size, fun x => decide (x = xi), rfl, (hr3.set xi _).congr (fun x _ => ?_), by omega, by omega, by omega, fun x _ => ?_, xi, hxs, ?_⟩)))
        · by_cases e : x = xi <;> simp [e]
        · rw [HU.out x, decide_eq_true_iff]
          exact ⟨.inr, fun h => h.elim (fun h => absurd h (HNO.out x)) id⟩
        · rw [HU.out xi]; exact .inr rfl
      · have HF : Aside (b ≠ c.Se ∧ b ≠ c.Td ∧ c.Se < b ∧ (∀ x, x < c.V.ns → (f x = true ↔ c.PI k vis i x))) := ⟨hf2, hf3, hf4, hf5⟩
        have HXB : Aside (∀ w1, Below W.heap.size W w1 → Calls Yba.prog 25 #[.int .i32 (i : Int), .pointer (some ⟨c.w.heap.size, 0, none⟩), .pointer (some ⟨c.w.heap.size + 2, 0, none⟩)] w1 fun e w' => e = .returned (.int .u32 (xi : Int)) ∧
            Hid (KW c (c.cnI k (opens t) i) (todoV t) t.length (c.PI k vis i) (.slice (some ⟨b, 0, none⟩) c.V.ns c.V.ns) w' ∧ w'.rowIs b 4 c.V.ns (fun i => .bool (f i))) ∧ w'.cell? ⟨b, xi, none⟩ = some (.bool (f xi)) ∧ w'.frozen? ⟨b, xi, none⟩ = false) := by
          intro w1 hb1
          have hk1 := hkw.later hb1
          have hr1 := hf1.of_block (hb1.block _ hf1.lt)
          have hx2 := hk1.fx.vb.x hin _ (Below.refl _ _)
          rw [← exi] at hx2
          refine hx2.mono ?_
          rintro e1 w' ⟨rfl, hb⟩
          have hr2 := hr1.of_block (hb.block _ hr1.lt)
          exact ⟨rfl, ⟨hk1.later hb, hr2⟩, hr2.cell hxs, hr2.frozen _⟩
        have heq : ∀ w : World, (binOp .eql 23 (.slice (some ⟨b, 0, none⟩) c.V.ns c.V.ns) (.slice none 0 0)).run Yba.prog w = .ok (.bool false) w := eql_not _ _ _
        clear hkw erv exi hx hs0 edv hat hnext hvb hz hU hf1 hf2 hf3 hf4 hf5 hf6
        unfold frW fw
        conv => arg 2; whnf
        go_wp2_with (first | (go_at_call 27; refine Calls.mono HRd.out ?_; rintro e w' ⟨rfl, rfl⟩) | (go_at_call 25; refine Calls.mono HXC.out ?_; rintro e w' ⟨rfl, hb, q1, q2, q3, q4, q5⟩) | (go_at_call 25; refine Calls.mono (HXB.out _ hb.out) ?_; rintro e w'' ⟨rfl, hq, q6, q7⟩))
        obtain ⟨hk3, hr3⟩ := hq.out
        obtain ⟨hf2, hf3, hf4, hf5⟩ := HF.out
        refine HX.out _ _ (RelI.mk rfl (hk3.other hf2 hf3 hf4 _ _ (.inr ⟨b, upd f xi true, rfl, (hr3.set xi _).congr (fun x _ => ?_), hf2, hf3, hf4, fun x hx => ?_, xi, hxs, ?_⟩)))
        · unfold upd; by_cases e : x = xi <;> simp [e]
        · rw [HU.out x]
          by_cases e : x = xi
          · rw [e, upd_same]; exact ⟨fun _ => .inr rfl, fun _ => rfl⟩
          · rw [upd_ne e, hf5 x hx]; exact ⟨.inl, fun h => h.elim id (fun h => absurd h e)⟩
        · rw [HU.out xi]; exact .inr rfl
    · have hd0i : ((dv : Int) == 0) = false := by simpa using hd0
      have HD0 : Aside (¬ dv = 0) := hd0
      clear hkw erv exi hx hs0 edv hat hnext hvb hz hd0
      unfold frW fw
      conv => arg 2; whnf
      go_wp2_with (first | (go_at_call 27; refine Calls.mono HRd.out ?_; rintro e w' ⟨rfl, rfl⟩) | (go_at_call 25; refine Calls.mono HXC.out ?_; rintro e w' ⟨rfl, hb, q1, q2, q3, q4, q5⟩))
      refine HX.out _ _ (RelI.mk rfl ((A2.out.later hb.out).congr (fun x _ => rfl) (fun x => ?_)))
      rw [WC.PI_succ HC.out.lo]
      exact ⟨.inl, fun h => h.elim id (fun h => absurd (HZ.out.2 h.2.2) HD0.out)⟩
end Go.Proofs.Ybulkexnju.W
