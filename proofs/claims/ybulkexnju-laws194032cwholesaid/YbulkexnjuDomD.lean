/-
  region 31: its law.
-/
import Derived.Test.YbulkexnjuDomC
namespace Go.Proofs.Ybulkexnju.W
open Go.RowKit Go.Proofs.Ybulkexnju.G
set_option linter.unusedVariables false
set_option maxRecDepth 100000

section
variable {P : Program} {o : Oper} {a : Act} {w : World} {K : Act → World → Prop} {Q : Exit → Act → World → Prop}
theorem wpOp_intro {ops : Array Oper} {i : Nat} (ho : ops[i]? = some o) (hg : o.guard = none) (h : o.wp P a w K Q) : wpOp P ops Q i K a w := by
  unfold wpOp
  rw [ho]
  simp only [Region.wanted, hg]
  simp
  exact .inl h

theorem op_move {x : Operand} {v : Value} (hop : o.op = .move x) (hx : a.eval x = v) (h : K (a.put o.dst v) w) : o.wp P a w K Q := by
  unfold Oper.wp
  simp [execOp, hop, hx, Oper.upon]
  exact h

theorem op_make {l c : Operand} {k : Nat} (hop : o.op = .makeSlice 57 l c) (hl : a.eval l = .int .i64 (k : Int)) (hc : a.eval c = .int .i64 (k : Int)) (hk : k ≤ 1048576)
    (h : K (a.put o.dst (.slice (some ⟨w.heap.size, 0, none⟩) k k)) (w.alloc (.cells (madeCells #[.int .i32 0] k) 21))) : o.wp Yba.prog a w K Q := by
  have hrun := make_lc .i64 .i64 k k (Nat.le_refl _) hk w
  unfold Oper.wp
  simp [execOp, hop, hl, hc, hrun, Result.andThen, Oper.upon]
  exact h

theorem newBox (W : World) : (W.alloc (.cells #[.slice none 0 0] 57)).rowIs W.heap.size 57 1 (fun _ => .slice none 0 0) :=
  World.rowIs_alloc W #[.slice none 0 0] 57 _ (fun i hi => by
    have : i = 0 := by simpa using hi
    rw [this]; rfl)

theorem op_alloc (hop : o.op = .alloc 57) (h : K (a.put o.dst (.pointer (some ⟨w.heap.size, 0, none⟩))) (w.alloc (.cells #[.slice none 0 0] 57))) : o.wp Yba.prog a w K Q := by
  unfold Oper.wp
  simp only [execOp, hop]
  go_simp
  exact h

theorem op_store {p x : Operand} {b g k : Nat} {u : Value} (hop : o.op = .store 57 p x) (hd : o.dst = none) (hp : a.eval p = .pointer (some ⟨b, 0, none⟩)) (hx : a.eval x = .slice (some ⟨g, 0, none⟩) k k) (hc : w.cell? ⟨b, 0, none⟩ = some u) (hf : w.frozen? ⟨b, 0, none⟩ = false)
    (h : K a (w.setCell ⟨b, 0, none⟩ (.slice (some ⟨g, 0, none⟩) k k))) : o.wp Yba.prog a w K Q := by
  unfold Oper.wp
  simp only [execOp, hop, hp, hx]
  go_simp
  exact h
end

theorem edges31 : (List.range 12).all (fun i => match ops31[i]? with | some o => o.after.all (fun e => decide (e.on < i)) | none => true) = true := by kernel_rfl

theorem edge_lt {i : Nat} {o : Oper} (hi : i < 12) (ho : ops31[i]? = some o) : ∀ e ∈ o.after, e.on < i := by
  have h := List.all_eq_true.1 edges31 i (List.mem_range.2 hi)
  rw [ho] at h
  intro e he
  exact of_decide_eq_true ((Array.all_eq_true_iff_forall_mem.1 h) e he)

theorem all31 {listed : Array Bool} (hs : listed.size = 12) (hr : Region.ready .any ops31 listed = []) : ∀ i, i < 12 → listed.getD i false = true := by
  intro i
  induction i using Nat.strongRecOn with
  | _ i ih =>
    intro hi
    cases hl : listed.getD i false with
    | true => rfl
    | false =>
      exfalso
      have hlt : i < ops31.size := by rw [ops31_size]; exact hi
      have hm : i ∈ Region.ready .any ops31 listed := mem_ready.2 ⟨by
        rw [Array.getD_eq_getD_getElem?] at hl ⊢
        cases e : listed[i]? with
        | none => have := Array.getElem?_eq_none_iff.1 e; omega
        | some b => rw [e] at hl; simpa using hl, ops31[i], Array.getElem?_eq_getElem hlt, fun e he _ => by
        have h := edge_lt hi (Array.getElem?_eq_getElem hlt) e he
        exact ih e.on h (by omega)⟩
      rw [hr] at hm
      cases hm

theorem getD_set {listed : Array Bool} {i : Nat} (hi : i < listed.size) : (fun j => (listed.setIfInBounds i true).getD j false) = upd (fun j => listed.getD j false) i true := by
  funext j
  by_cases e : j = i
  · subst e
    rw [upd_same, Array.getD_eq_getD_getElem?]
    simp [hi]
  · rw [upd_ne e, getD_set_ne _ (fun h => e h.symm)]

theorem pred31 {i p : Nat} {o : Oper} {listed : Array Bool} (hb : ((ops31[i]?).map (fun o => o.after.any (fun e => e.on == p && Region.binds .any e))).getD false = true) (ho : ops31[i]? = some o)
    (hpre : ∀ e ∈ o.after, Region.binds .any e = true → listed.getD e.on false = true) : listed.getD p false = true := by
  rw [ho] at hb
  obtain ⟨e, he, h⟩ := Array.any_eq_true'.1 (show o.after.any (fun e => e.on == p && Region.binds .any e) = true from hb)
  simp only [Bool.and_eq_true, beq_iff_eq] at h
  rw [← h.1]
  exact hpre e he h.2

set_option maxHeartbeats 2000000 in
theorem reg31_wp {Q : Exit → Act → World → Prop} {x : Nat → Value} {v2 v4 v6 v14 v15 : Value} {s0 : Nat → Value} {K L : Nat} {W0 : World} (hK : K ≤ 1048576) (hL : L ≤ W0.heap.size)
    (hq : ∀ s b W', Six K L b W' → Below L W0 W' → s 16 = .pointer (some ⟨b 6, 0, none⟩) → s 17 = .pointer (some ⟨b 7, 0, none⟩) → s 18 = .pointer (some ⟨b 8, 0, none⟩) → Q .normal ⟨(fr31 x v2 v4 v6 (.int .i64 (K : Int)) v14 v15 s).toArray, []⟩ W') :
    reg31.wp Yba.prog Q ⟨(fr31 x v2 v4 v6 (.int .i64 (K : Int)) v14 v15 s0).toArray, []⟩ W0 := by
  rw [reg31_eq]
  refine wp_region_any (by kernel_rfl) (wpAny_inv (I := fun listed a W => listed.size = 12 ∧ ∃ s b, a = ⟨(fr31 x v2 v4 v6 (.int .i64 (K : Int)) v14 v15 s).toArray, []⟩ ∧ I31 K L W0 (fun i => listed.getD i false) s b W) ?_ ?_ _ _ _ _ ?_ ?_)
  · rintro listed a W ⟨hs, s, b, rfl, h⟩ hr
    have ha := all31 hs hr
    obtain ⟨h6, u6, r6, e6⟩ := h.s6 (ha 6 (by omega))
    obtain ⟨h7, u7, r7, e7⟩ := h.s7 (ha 7 (by omega))
    obtain ⟨h8, u8, r8, e8⟩ := h.s8 (ha 8 (by omega))
    rw [e6 (ha 9 (by omega))] at r6
    rw [e7 (ha 10 (by omega))] at r7
    rw [e8 (ha 11 (by omega))] at r8
    exact hq s b W ⟨fun i hi => h.ge i hi (ha i (by omega)), fun i j hi hj hij => h.ne i j hi hj hij (ha i (by omega)) (ha j (by omega)), (h.s1 (ha 1 (by omega))).2, (h.s3 (ha 3 (by omega))).2, (h.s5 (ha 5 (by omega))).2, r6, r7, r8⟩ h.bel h6 h7 h8
  · rintro listed a W i ⟨hs, s, b, rfl, h⟩ hi
    obtain ⟨hl, o, ho, hpre⟩ := mem_ready.1 hi
    have hi12 : i < 12 := by
      have := (Array.getElem?_eq_some_iff.1 ho).1
      rw [ops31_size] at this
      exact this
    have hsz : (listed.setIfInBounds i true).size = 12 := by simpa using hs
    have hls : i < listed.size := by omega
    have hlf : (fun j => listed.getD j false) i = false := by
      show listed.getD i false = false
      rw [Array.getD_eq_getD_getElem?] at hl ⊢
      cases e : listed[i]? with
      | none => rfl
      | some b => rw [e] at hl; simpa using hl
    have hset := getD_set hls
    have newb : ∀ j, (j = 1 ∨ j = 3 ∨ j = 5 ∨ j = 6 ∨ j = 7 ∨ j = 8) → j ≠ i → (fun j => listed.getD j false) j = true → upd b i W.heap.size j ≠ upd b i W.heap.size i := by
      intro j hj hji c
      rw [upd_ne hji, upd_same]
      have := (h.ge j hj c).2
      omega
    rcases (show i = 0 ∨ i = 1 ∨ i = 2 ∨ i = 3 ∨ i = 4 ∨ i = 5 ∨ i = 6 ∨ i = 7 ∨ i = 8 ∨ i = 9 ∨ i = 10 ∨ i = 11 by omega) with e | e | e | e | e | e | e | e | e | e | e | e <;> subst e
    · refine wpOp_intro rfl rfl (op_move (x := .tmp 10) rfl (fr31_ten _ _ _ _ _ _ _ _) ⟨hsz, upd s 170 (.int .i64 (K : Int)), b, fr31_put _ _ _ _ _ _ _ _ 170 _ (by omega), ?_⟩)
      rw [hset]; exact h.num 0 170 (by omega)
    · have c : listed.getD 0 false = true := pred31 (by kernel_rfl) ho hpre
      refine wpOp_intro rfl rfl (op_make (l := .tmp 170) (c := .tmp 170) (k := K) rfl ((fr31_eval _ _ _ _ _ _ _ _ 170 (by omega)).trans (h.s0 c)) ((fr31_eval _ _ _ _ _ _ _ _ 170 (by omega)).trans (h.s0 c)) hK ⟨hsz, upd s 171 (.slice (some ⟨W.heap.size, 0, none⟩) K K), upd b 1 W.heap.size, fr31_put _ _ _ _ _ _ _ _ 171 _ (by omega), ?_⟩)
      rw [hset]
      have := (h.alloc 1 (by omega) hlf (.cells (madeCells #[.int .i32 0] K) 21)).2.setRow 1 171 (by omega) hlf (by rw [upd_same]; exact madeRow W K) (by rw [upd_same]; have := h.big; simp; omega) newb
      rw [upd_same] at this
      exact this
    · refine wpOp_intro rfl rfl (op_move (x := .tmp 10) rfl (fr31_ten _ _ _ _ _ _ _ _) ⟨hsz, upd s 172 (.int .i64 (K : Int)), b, fr31_put _ _ _ _ _ _ _ _ 172 _ (by omega), ?_⟩)
      rw [hset]; exact h.num 2 172 (by omega)
    · have c : listed.getD 2 false = true := pred31 (by kernel_rfl) ho hpre
      refine wpOp_intro rfl rfl (op_make (l := .tmp 172) (c := .tmp 172) (k := K) rfl ((fr31_eval _ _ _ _ _ _ _ _ 172 (by omega)).trans (h.s2 c)) ((fr31_eval _ _ _ _ _ _ _ _ 172 (by omega)).trans (h.s2 c)) hK ⟨hsz, upd s 173 (.slice (some ⟨W.heap.size, 0, none⟩) K K), upd b 3 W.heap.size, fr31_put _ _ _ _ _ _ _ _ 173 _ (by omega), ?_⟩)
      rw [hset]
      have := (h.alloc 3 (by omega) hlf (.cells (madeCells #[.int .i32 0] K) 21)).2.setRow 3 173 (by omega) hlf (by rw [upd_same]; exact madeRow W K) (by rw [upd_same]; have := h.big; simp; omega) newb
      rw [upd_same] at this
      exact this
    · refine wpOp_intro rfl rfl (op_move (x := .tmp 10) rfl (fr31_ten _ _ _ _ _ _ _ _) ⟨hsz, upd s 174 (.int .i64 (K : Int)), b, fr31_put _ _ _ _ _ _ _ _ 174 _ (by omega), ?_⟩)
      rw [hset]; exact h.num 4 174 (by omega)
    · have c : listed.getD 4 false = true := pred31 (by kernel_rfl) ho hpre
      refine wpOp_intro rfl rfl (op_make (l := .tmp 174) (c := .tmp 174) (k := K) rfl ((fr31_eval _ _ _ _ _ _ _ _ 174 (by omega)).trans (h.s4 c)) ((fr31_eval _ _ _ _ _ _ _ _ 174 (by omega)).trans (h.s4 c)) hK ⟨hsz, upd s 175 (.slice (some ⟨W.heap.size, 0, none⟩) K K), upd b 5 W.heap.size, fr31_put _ _ _ _ _ _ _ _ 175 _ (by omega), ?_⟩)
      rw [hset]
      have := (h.alloc 5 (by omega) hlf (.cells (madeCells #[.int .i32 0] K) 21)).2.setRow 5 175 (by omega) hlf (by rw [upd_same]; exact madeRow W K) (by rw [upd_same]; have := h.big; simp; omega) newb
      rw [upd_same] at this
      exact this
    · refine wpOp_intro rfl rfl (op_alloc rfl ⟨hsz, upd s 16 (.pointer (some ⟨W.heap.size, 0, none⟩)), upd b 6 W.heap.size, fr31_put _ _ _ _ _ _ _ _ 16 _ (by omega), ?_⟩)
      rw [hset]
      have := (h.alloc 6 (by omega) hlf (.cells #[.slice none 0 0] 57)).2.setBox 6 16 (by omega) hlf (v := .slice none 0 0) (by rw [upd_same]; exact newBox W) (by rw [upd_same]; have := h.big; simp; omega) newb
      rw [upd_same] at this
      exact this
    · refine wpOp_intro rfl rfl (op_alloc rfl ⟨hsz, upd s 17 (.pointer (some ⟨W.heap.size, 0, none⟩)), upd b 7 W.heap.size, fr31_put _ _ _ _ _ _ _ _ 17 _ (by omega), ?_⟩)
      rw [hset]
      have := (h.alloc 7 (by omega) hlf (.cells #[.slice none 0 0] 57)).2.setBox 7 17 (by omega) hlf (v := .slice none 0 0) (by rw [upd_same]; exact newBox W) (by rw [upd_same]; have := h.big; simp; omega) newb
      rw [upd_same] at this
      exact this
    · refine wpOp_intro rfl rfl (op_alloc rfl ⟨hsz, upd s 18 (.pointer (some ⟨W.heap.size, 0, none⟩)), upd b 8 W.heap.size, fr31_put _ _ _ _ _ _ _ _ 18 _ (by omega), ?_⟩)
      rw [hset]
      have := (h.alloc 8 (by omega) hlf (.cells #[.slice none 0 0] 57)).2.setBox 8 18 (by omega) hlf (v := .slice none 0 0) (by rw [upd_same]; exact newBox W) (by rw [upd_same]; have := h.big; simp; omega) newb
      rw [upd_same] at this
      exact this
    · have c6 : listed.getD 6 false = true := pred31 (by kernel_rfl) ho hpre
      have c1 : listed.getD 1 false = true := pred31 (by kernel_rfl) ho hpre
      obtain ⟨h6, u6, r6, _⟩ := h.s6 c6
      refine wpOp_intro rfl rfl (op_store (p := .tmp 16) (x := .tmp 171) rfl rfl ((fr31_eval _ _ _ _ _ _ _ _ 16 (by omega)).trans h6) ((fr31_eval _ _ _ _ _ _ _ _ 171 (by omega)).trans (h.s1 c1).1) (r6.cell (by omega)) (r6.frozen 0) ⟨hsz, s, b, rfl, ?_⟩)
      rw [hset]; exact h.store 9 6 1 (by omega) c6 c1
    · have c6 : listed.getD 7 false = true := pred31 (by kernel_rfl) ho hpre
      have c1 : listed.getD 3 false = true := pred31 (by kernel_rfl) ho hpre
      obtain ⟨h6, u6, r6, _⟩ := h.s7 c6
      refine wpOp_intro rfl rfl (op_store (p := .tmp 17) (x := .tmp 173) rfl rfl ((fr31_eval _ _ _ _ _ _ _ _ 17 (by omega)).trans h6) ((fr31_eval _ _ _ _ _ _ _ _ 173 (by omega)).trans (h.s3 c1).1) (r6.cell (by omega)) (r6.frozen 0) ⟨hsz, s, b, rfl, ?_⟩)
      rw [hset]; exact h.store 10 7 3 (by omega) c6 c1
    · have c6 : listed.getD 8 false = true := pred31 (by kernel_rfl) ho hpre
      have c1 : listed.getD 5 false = true := pred31 (by kernel_rfl) ho hpre
      obtain ⟨h6, u6, r6, _⟩ := h.s8 c6
      refine wpOp_intro rfl rfl (op_store (p := .tmp 18) (x := .tmp 175) rfl rfl ((fr31_eval _ _ _ _ _ _ _ _ 18 (by omega)).trans h6) ((fr31_eval _ _ _ _ _ _ _ _ 175 (by omega)).trans (h.s5 c1).1) (r6.cell (by omega)) (r6.frozen 0) ⟨hsz, s, b, rfl, ?_⟩)
      rw [hset]; exact h.store 11 8 5 (by omega) c6 c1
  · refine ⟨by simp [ops31_size], s0, fun _ => 0, rfl, ?_⟩
    have hf : ∀ i, (Array.replicate ops31.size false).getD i false = false := fun i => getD_replicate_false _ _
    have hn : ∀ {i : Nat} {p : Prop}, (Array.replicate ops31.size false).getD i false = true → p := fun {i p} c => by rw [hf i] at c; cases c
    exact ⟨fun c => hn c, fun c => hn c, fun c => hn c, fun c => hn c, fun c => hn c, fun c => hn c, fun c => hn c, fun c => hn c, fun c => hn c, fun i _ c => hn c, fun i j _ _ _ c => hn c, fun c => hn c, fun c => hn c, fun c => hn c, hL, ⟨rfl, rfl, rfl, Nat.le_refl _, fun _ _ => rfl⟩⟩
  · rw [ops31_size]; decide
end Go.Proofs.Ybulkexnju.W
