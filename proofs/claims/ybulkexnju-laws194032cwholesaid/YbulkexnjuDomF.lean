/-
  region 51: its law.
-/
import Derived.Test.YbulkexnjuDomE
namespace Go.Proofs.Ybulkexnju.W
open Go.RowKit Go.Proofs.Ybulkexnju.G
set_option linter.unusedVariables false
set_option maxRecDepth 100000

set_option maxHeartbeats 4000000 in
theorem reg51_wp {Q : Exit → Act → World → Prop} {x : Nat → Value} {v2 v3 v4 v6 v10 v14 v15 v17 v18 v22 v23 : Value} {s0 : Nat → Value} {K wv sw : Nat} {bv : Int} {c : Nat → Nat} {W : World} {u7 : Value} (hw : (wv : Int) < (K : Int)) (hs : (sw : Int) < (K : Int))
    (x0' : W.cell? ⟨c 0, 0, none⟩ = some (.slice (some ⟨c 3, 0, none⟩) K K)) (r3' : W.cell? ⟨c 3, wv, none⟩ = some (.int .i32 (sw : Int))) (r6' : W.cell? ⟨c 6, sw, none⟩ = some (.int .i32 bv)) (f6' : W.frozen? ⟨c 6, sw, none⟩ = false) (r7' : W.cell? ⟨c 7, wv, none⟩ = some u7) (f7' : W.frozen? ⟨c 7, wv, none⟩ = false) (n76 : c 7 ≠ c 6)
    (hq : ∀ s, Q .normal ⟨(fr51 x v2 v3 v4 v6 v10 v14 v15 (.pointer (some ⟨c 0, 0, none⟩)) v17 v18 (.slice (some ⟨c 6, 0, none⟩) K K) (.slice (some ⟨c 7, 0, none⟩) K K) v22 v23 (.int .i32 (wv : Int)) s).toArray, []⟩ ((W.drew.setCell ⟨c 7, wv, none⟩ (.int .i32 bv)).setCell ⟨c 6, sw, none⟩ (.int .i32 (wv : Int)))) :
    reg51.wp Yba.prog Q ⟨(fr51 x v2 v3 v4 v6 v10 v14 v15 (.pointer (some ⟨c 0, 0, none⟩)) v17 v18 (.slice (some ⟨c 6, 0, none⟩) K K) (.slice (some ⟨c 7, 0, none⟩) K K) v22 v23 (.int .i32 (wv : Int)) s0).toArray, []⟩ W := by
  rw [reg51_eq]
  obtain ⟨X, hX⟩ : ∃ X, X = W.drew := ⟨_, rfl⟩
  have x0 : X.cell? ⟨c 0, 0, none⟩ = some (.slice (some ⟨c 3, 0, none⟩) K K) := by rw [hX]; exact x0'
  have r3 : X.cell? ⟨c 3, wv, none⟩ = some (.int .i32 (sw : Int)) := by rw [hX]; exact r3'
  have r6 : X.cell? ⟨c 6, sw, none⟩ = some (.int .i32 bv) := by rw [hX]; exact r6'
  have f6 : X.frozen? ⟨c 6, sw, none⟩ = false := by rw [hX]; exact f6'
  have r7 : X.cell? ⟨c 7, wv, none⟩ = some u7 := by rw [hX]; exact r7'
  have f7 : X.frozen? ⟨c 7, wv, none⟩ = false := by rw [hX]; exact f7'
  refine wp_region_any (by kernel_rfl) (wpAny_inv (I := fun listed a W' => listed.size = 19 ∧ ∃ s, a = ⟨(fr51 x v2 v3 v4 v6 v10 v14 v15 (.pointer (some ⟨c 0, 0, none⟩)) v17 v18 (.slice (some ⟨c 6, 0, none⟩) K K) (.slice (some ⟨c 7, 0, none⟩) K K) v22 v23 (.int .i32 (wv : Int)) s).toArray, []⟩ ∧ I51 K wv sw bv c X (fun i => listed.getD i false) s W') ?_ ?_ _ _ _ _ ?_ ?_)
  · rintro listed a W' ⟨hsz, s, rfl, h⟩ hr
    have ha := all51 hsz hr
    rw [h.w2 (ha 18 (by omega)), hX]
    exact hq s
  · rintro listed a W' i ⟨hsz0, s, rfl, h⟩ hi
    obtain ⟨hl, o, ho, hpre⟩ := mem_ready.1 hi
    have hi19 : i < 19 := by
      have := (Array.getElem?_eq_some_iff.1 ho).1
      rw [ops51_size] at this
      exact this
    have hsz : (listed.setIfInBounds i true).size = 19 := by simpa using hsz0
    have hls : i < listed.size := by omega
    have hlf : (fun j => listed.getD j false) i = false := by
      show listed.getD i false = false
      rw [Array.getD_eq_getD_getElem?] at hl ⊢
      cases e : listed[i]? with
      | none => rfl
      | some b => rw [e] at hl; simpa using hl
    have hset := getD_set hls
    have isX : ∀ j, (j = 3 ∨ j = 6 ∨ j = 8 ∨ j = 11 ∨ j = 13 ∨ j = 16) → (fun j => listed.getD j false) j = false → W' = X := by
      intro j hj hf
      refine h.w0 ?_
      cases hc : (fun j => listed.getD j false) 16 with
      | false => exact hc
      | true =>
        obtain ⟨d13, d6, d11, d8, d3⟩ := h.q2 hc
        rcases hj with e | e | e | e | e | e <;> subst e <;> simp_all
    rcases (show i = 0 ∨ i = 1 ∨ i = 2 ∨ i = 3 ∨ i = 4 ∨ i = 5 ∨ i = 6 ∨ i = 7 ∨ i = 8 ∨ i = 9 ∨ i = 10 ∨ i = 11 ∨ i = 12 ∨ i = 13 ∨ i = 14 ∨ i = 15 ∨ i = 16 ∨ i = 17 ∨ i = 18 by omega) with e | e | e | e | e | e | e | e | e | e | e | e | e | e | e | e | e | e | e <;> subst e
    · refine wpOp_intro rfl rfl (op_move (x := .tmp 20) (v := V51 K wv sw bv c 0) rfl (fr51_20 _ _ _ _ _ _ _ _ _ _ _ _ _ _ _ _ _) ⟨hsz, upd s 251 (V51 K wv sw bv c 0), fr51_put _ _ _ _ _ _ _ _ _ _ _ _ _ _ _ _ _ 251 _ (by omega), ?_⟩)
      rw [hset]; exact h.put 0 (by omega) (by omega) (fun e => by omega) (fun e => by omega)
    · refine wpOp_intro rfl rfl (op_move (x := .tmp 24) (v := V51 K wv sw bv c 1) rfl (fr51_24 _ _ _ _ _ _ _ _ _ _ _ _ _ _ _ _ _) ⟨hsz, upd s 252 (V51 K wv sw bv c 1), fr51_put _ _ _ _ _ _ _ _ _ _ _ _ _ _ _ _ _ 252 _ (by omega), ?_⟩)
      rw [hset]; exact h.put 1 (by omega) (by omega) (fun e => by omega) (fun e => by omega)
    · refine wpOp_intro rfl rfl (op_move (x := .tmp 19) (v := V51 K wv sw bv c 2) rfl (fr51_19 _ _ _ _ _ _ _ _ _ _ _ _ _ _ _ _ _) ⟨hsz, upd s 253 (V51 K wv sw bv c 2), fr51_put _ _ _ _ _ _ _ _ _ _ _ _ _ _ _ _ _ 253 _ (by omega), ?_⟩)
      rw [hset]; exact h.put 2 (by omega) (by omega) (fun e => by omega) (fun e => by omega)
    · obtain rfl := isX 3 (by omega) hlf
      refine wpOp_intro rfl rfl (op_load57 (p := .tmp 16) rfl (fr51_16 _ _ _ _ _ _ _ _ _ _ _ _ _ _ _ _ _) x0 ⟨hsz, upd s 254 (V51 K wv sw bv c 3), fr51_put _ _ _ _ _ _ _ _ _ _ _ _ _ _ _ _ _ 254 _ (by omega), ?_⟩)
      rw [hset]; exact h.put 3 (by omega) (by omega) (fun e => by omega) (fun e => by omega)
    · refine wpOp_intro rfl rfl (op_move (x := .tmp 24) (v := V51 K wv sw bv c 4) rfl (fr51_24 _ _ _ _ _ _ _ _ _ _ _ _ _ _ _ _ _) ⟨hsz, upd s 255 (V51 K wv sw bv c 4), fr51_put _ _ _ _ _ _ _ _ _ _ _ _ _ _ _ _ _ 255 _ (by omega), ?_⟩)
      rw [hset]; exact h.put 4 (by omega) (by omega) (fun e => by omega) (fun e => by omega)
    · skip
      have c3 : listed.getD 3 false = true := pred51 (by kernel_rfl) ho hpre
      have c4 : listed.getD 4 false = true := pred51 (by kernel_rfl) ho hpre
      refine wpOp_intro rfl rfl (op_index (t := .tmp 254) (x := .tmp 255) rfl ((fr51_eval _ _ _ _ _ _ _ _ _ _ _ _ _ _ _ _ _ 254 (by omega)).trans (h.dv 3 (by omega) (by omega) c3)) ((fr51_eval _ _ _ _ _ _ _ _ _ _ _ _ _ _ _ _ _ 255 (by omega)).trans (h.dv 4 (by omega) (by omega) c4)) hw ⟨hsz, upd s 256 (V51 K wv sw bv c 5), fr51_put _ _ _ _ _ _ _ _ _ _ _ _ _ _ _ _ _ 256 _ (by omega), ?_⟩)
      rw [hset]; exact h.put 5 (by omega) (by omega) (fun _ => c3) (fun e => by omega)
    · obtain rfl := isX 6 (by omega) hlf
      have c5 : listed.getD 5 false = true := pred51 (by kernel_rfl) ho hpre
      refine wpOp_intro rfl rfl (op_load21 (p := .tmp 256) rfl ((fr51_eval _ _ _ _ _ _ _ _ _ _ _ _ _ _ _ _ _ 256 (by omega)).trans (h.dv 5 (by omega) (by omega) c5)) r3 ⟨hsz, upd s 257 (V51 K wv sw bv c 6), fr51_put _ _ _ _ _ _ _ _ _ _ _ _ _ _ _ _ _ 257 _ (by omega), ?_⟩)
      rw [hset]; exact h.put 6 (by omega) (by omega) (fun e => by omega) (fun _ => c5)
    · refine wpOp_intro rfl rfl (op_move (x := .tmp 19) (v := V51 K wv sw bv c 7) rfl (fr51_19 _ _ _ _ _ _ _ _ _ _ _ _ _ _ _ _ _) ⟨hsz, upd s 258 (V51 K wv sw bv c 7), fr51_put _ _ _ _ _ _ _ _ _ _ _ _ _ _ _ _ _ 258 _ (by omega), ?_⟩)
      rw [hset]; exact h.put 7 (by omega) (by omega) (fun e => by omega) (fun e => by omega)
    · obtain rfl := isX 8 (by omega) hlf
      refine wpOp_intro rfl rfl (op_load57 (p := .tmp 16) rfl (fr51_16 _ _ _ _ _ _ _ _ _ _ _ _ _ _ _ _ _) x0 ⟨hsz, upd s 259 (V51 K wv sw bv c 8), fr51_put _ _ _ _ _ _ _ _ _ _ _ _ _ _ _ _ _ 259 _ (by omega), ?_⟩)
      rw [hset]; exact h.put 8 (by omega) (by omega) (fun e => by omega) (fun e => by omega)
    · refine wpOp_intro rfl rfl (op_move (x := .tmp 24) (v := V51 K wv sw bv c 9) rfl (fr51_24 _ _ _ _ _ _ _ _ _ _ _ _ _ _ _ _ _) ⟨hsz, upd s 260 (V51 K wv sw bv c 9), fr51_put _ _ _ _ _ _ _ _ _ _ _ _ _ _ _ _ _ 260 _ (by omega), ?_⟩)
      rw [hset]; exact h.put 9 (by omega) (by omega) (fun e => by omega) (fun e => by omega)
    · skip
      have c8 : listed.getD 8 false = true := pred51 (by kernel_rfl) ho hpre
      have c9 : listed.getD 9 false = true := pred51 (by kernel_rfl) ho hpre
      refine wpOp_intro rfl rfl (op_index (t := .tmp 259) (x := .tmp 260) rfl ((fr51_eval _ _ _ _ _ _ _ _ _ _ _ _ _ _ _ _ _ 259 (by omega)).trans (h.dv 8 (by omega) (by omega) c8)) ((fr51_eval _ _ _ _ _ _ _ _ _ _ _ _ _ _ _ _ _ 260 (by omega)).trans (h.dv 9 (by omega) (by omega) c9)) hw ⟨hsz, upd s 261 (V51 K wv sw bv c 10), fr51_put _ _ _ _ _ _ _ _ _ _ _ _ _ _ _ _ _ 261 _ (by omega), ?_⟩)
      rw [hset]; exact h.put 10 (by omega) (by omega) (fun e => by omega) (fun e => by omega)
    · obtain rfl := isX 11 (by omega) hlf
      have c10 : listed.getD 10 false = true := pred51 (by kernel_rfl) ho hpre
      refine wpOp_intro rfl rfl (op_load21 (p := .tmp 261) rfl ((fr51_eval _ _ _ _ _ _ _ _ _ _ _ _ _ _ _ _ _ 261 (by omega)).trans (h.dv 10 (by omega) (by omega) c10)) r3 ⟨hsz, upd s 262 (V51 K wv sw bv c 11), fr51_put _ _ _ _ _ _ _ _ _ _ _ _ _ _ _ _ _ 262 _ (by omega), ?_⟩)
      rw [hset]; exact h.put 11 (by omega) (by omega) (fun e => by omega) (fun e => by omega)
    · skip
      have c7 : listed.getD 7 false = true := pred51 (by kernel_rfl) ho hpre
      have c11 : listed.getD 11 false = true := pred51 (by kernel_rfl) ho hpre
      refine wpOp_intro rfl rfl (op_index (t := .tmp 258) (x := .tmp 262) rfl ((fr51_eval _ _ _ _ _ _ _ _ _ _ _ _ _ _ _ _ _ 258 (by omega)).trans (h.dv 7 (by omega) (by omega) c7)) ((fr51_eval _ _ _ _ _ _ _ _ _ _ _ _ _ _ _ _ _ 262 (by omega)).trans (h.dv 11 (by omega) (by omega) c11)) hs ⟨hsz, upd s 263 (V51 K wv sw bv c 12), fr51_put _ _ _ _ _ _ _ _ _ _ _ _ _ _ _ _ _ 263 _ (by omega), ?_⟩)
      rw [hset]; exact h.put 12 (by omega) (by omega) (fun e => by omega) (fun e => by omega)
    · obtain rfl := isX 13 (by omega) hlf
      have c12 : listed.getD 12 false = true := pred51 (by kernel_rfl) ho hpre
      refine wpOp_intro rfl rfl (op_load21 (p := .tmp 263) rfl ((fr51_eval _ _ _ _ _ _ _ _ _ _ _ _ _ _ _ _ _ 263 (by omega)).trans (h.dv 12 (by omega) (by omega) c12)) r6 ⟨hsz, upd s 264 (V51 K wv sw bv c 13), fr51_put _ _ _ _ _ _ _ _ _ _ _ _ _ _ _ _ _ 264 _ (by omega), ?_⟩)
      rw [hset]; exact h.put 13 (by omega) (by omega) (fun e => by omega) (fun e => by omega)
    · refine wpOp_intro rfl rfl (op_move (x := .tmp 24) (v := V51 K wv sw bv c 14) rfl (fr51_24 _ _ _ _ _ _ _ _ _ _ _ _ _ _ _ _ _) ⟨hsz, upd s 265 (V51 K wv sw bv c 14), fr51_put _ _ _ _ _ _ _ _ _ _ _ _ _ _ _ _ _ 265 _ (by omega), ?_⟩)
      rw [hset]; exact h.put 14 (by omega) (by omega) (fun e => by omega) (fun e => by omega)
    · skip
      have c0 : listed.getD 0 false = true := pred51 (by kernel_rfl) ho hpre
      have c1 : listed.getD 1 false = true := pred51 (by kernel_rfl) ho hpre
      refine wpOp_intro rfl rfl (op_index (t := .tmp 251) (x := .tmp 252) rfl ((fr51_eval _ _ _ _ _ _ _ _ _ _ _ _ _ _ _ _ _ 251 (by omega)).trans (h.dv 0 (by omega) (by omega) c0)) ((fr51_eval _ _ _ _ _ _ _ _ _ _ _ _ _ _ _ _ _ 252 (by omega)).trans (h.dv 1 (by omega) (by omega) c1)) hw ⟨hsz, upd s 266 (V51 K wv sw bv c 15), fr51_put _ _ _ _ _ _ _ _ _ _ _ _ _ _ _ _ _ 266 _ (by omega), ?_⟩)
      rw [hset]; exact h.put 15 (by omega) (by omega) (fun e => by omega) (fun e => by omega)
    · obtain rfl := isX 16 (by omega) hlf
      have c15 : listed.getD 15 false = true := pred51 (by kernel_rfl) ho hpre
      have c13 : listed.getD 13 false = true := pred51 (by kernel_rfl) ho hpre
      have c6 : listed.getD 6 false = true := pred51 (by kernel_rfl) ho hpre
      have c11 : listed.getD 11 false = true := pred51 (by kernel_rfl) ho hpre
      have c8 : listed.getD 8 false = true := pred51 (by kernel_rfl) ho hpre
      have c5 := h.q4 c6
      have c3 := h.q3 c5
      refine wpOp_intro rfl rfl (op_store21 (p := .tmp 266) (x := .tmp 264) rfl rfl ((fr51_eval _ _ _ _ _ _ _ _ _ _ _ _ _ _ _ _ _ 266 (by omega)).trans (h.dv 15 (by omega) (by omega) c15)) ((fr51_eval _ _ _ _ _ _ _ _ _ _ _ _ _ _ _ _ _ 264 (by omega)).trans (h.dv 13 (by omega) (by omega) c13)) r7 f7 ⟨hsz, s, rfl, ?_⟩)
      rw [hset]
      have c18 : (fun j => listed.getD j false) 18 = false := by
        cases hc : (fun j => listed.getD j false) 18 with
        | false => rfl
        | true => exact absurd ((h.q1 hc).symm.trans hlf) (by decide)
      have up : ∀ j, listed.getD j false = true → upd (fun j => listed.getD j false) 16 true j = true := fun j hj => by
        by_cases e : j = 16
        · rw [e, upd_same]
        · rw [upd_ne e]; exact hj
      refine ⟨fun j hj hj6 cc => h.dv j hj hj6 (by rwa [upd_ne hj6] at cc), fun _ => upd_same _ _ _, fun _ => ⟨up _ c13, up _ c6, up _ c11, up _ c8, up _ c3⟩, fun _ => up _ c3, fun _ => up _ c5, fun cc => by (rw [upd_same] at cc; cases cc), fun _ _ => rfl, fun cc => by (rw [upd_ne (by omega)] at cc; exact absurd (cc.symm.trans c18) (by decide))⟩
    · skip
      have c2 : listed.getD 2 false = true := pred51 (by kernel_rfl) ho hpre
      have c6 : listed.getD 6 false = true := pred51 (by kernel_rfl) ho hpre
      refine wpOp_intro rfl rfl (op_index (t := .tmp 253) (x := .tmp 257) rfl ((fr51_eval _ _ _ _ _ _ _ _ _ _ _ _ _ _ _ _ _ 253 (by omega)).trans (h.dv 2 (by omega) (by omega) c2)) ((fr51_eval _ _ _ _ _ _ _ _ _ _ _ _ _ _ _ _ _ 257 (by omega)).trans (h.dv 6 (by omega) (by omega) c6)) hs ⟨hsz, upd s 267 (V51 K wv sw bv c 17), fr51_put _ _ _ _ _ _ _ _ _ _ _ _ _ _ _ _ _ 267 _ (by omega), ?_⟩)
      rw [hset]; exact h.put 17 (by omega) (by omega) (fun e => by omega) (fun e => by omega)
    · skip
      have c17 : listed.getD 17 false = true := pred51 (by kernel_rfl) ho hpre
      have c14 : listed.getD 14 false = true := pred51 (by kernel_rfl) ho hpre
      have c16 : listed.getD 16 false = true := pred51 (by kernel_rfl) ho hpre
      have hW := h.w1 c16 hlf
      refine wpOp_intro rfl rfl (op_store21 (p := .tmp 267) (x := .tmp 265) (u := .int .i32 bv) rfl rfl ((fr51_eval _ _ _ _ _ _ _ _ _ _ _ _ _ _ _ _ _ 267 (by omega)).trans (h.dv 17 (by omega) (by omega) c17)) ((fr51_eval _ _ _ _ _ _ _ _ _ _ _ _ _ _ _ _ _ 265 (by omega)).trans (h.dv 14 (by omega) (by omega) c14)) (by rw [hW]; exact cell_other r6 (Ne.symm n76) _) (by rw [hW, World.frozen?_setCell]; exact f6) ⟨hsz, s, rfl, ?_⟩)
      rw [hset]
      have up : ∀ j, listed.getD j false = true → upd (fun j => listed.getD j false) 18 true j = true := fun j hj => by
        by_cases e : j = 18
        · rw [e, upd_same]
        · rw [upd_ne e]; exact hj
      obtain ⟨d13, d6, d11, d8, d3⟩ := h.q2 c16
      refine ⟨fun j hj hj6 cc => h.dv j hj hj6 (by rwa [upd_ne (by omega)] at cc), fun _ => up _ c16, fun _ => ⟨up _ d13, up _ d6, up _ d11, up _ d8, up _ d3⟩, fun _ => up _ d3, fun _ => up _ (h.q4 d6), fun cc => by (have := up _ c16; rw [this] at cc; cases cc), fun _ cc => by (rw [upd_same] at cc; cases cc), fun _ => by rw [hW]⟩
  · refine ⟨by simp [ops51_size], s0, rfl, ?_⟩
    have hf : ∀ i, (Array.replicate ops51.size false).getD i false = false := fun i => getD_replicate_false _ _
    have hn : ∀ {i : Nat} {p : Prop}, (Array.replicate ops51.size false).getD i false = true → p := fun {i p} c => by rw [hf i] at c; cases c
    exact ⟨fun i _ _ c => hn c, fun c => hn c, fun c => hn c, fun c => hn c, fun c => hn c, fun _ => hX.symm, fun c => hn c, fun c => hn c⟩
  · rw [ops51_size]; decide
end Go.Proofs.Ybulkexnju.W
