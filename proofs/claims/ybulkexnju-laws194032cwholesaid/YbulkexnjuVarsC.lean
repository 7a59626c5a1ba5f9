/-
  watchedVars: the blocks are counted, the rows of blocks and starts made and filled.
-/
import Derived.Test.YbulkexnjuVarsB
namespace Go.Proofs.Ybulkexnju.W
open Go.RowKit Go.Proofs.Ybulkexnju.G
set_option linter.unusedVariables false
set_option maxRecDepth 100000

/-- three blocks that part -/
structure MB (H L Bk St : Nat) : Prop where
  l : H + 5 ≤ L
  b : H + 5 ≤ Bk
  s : H + 5 ≤ St
  lb : L ≠ Bk
  ls : L ≠ St
  bs : Bk ≠ St

/-- leads, block, starts -/
structure MW (V : VE) (w : World) (ld : Nat → Bool) (L Bk St : Nat) (bk : Nat → Int) (S : List Value) (len : Nat) (W : World) : Prop where
  vb : VB V w W
  rl : W.rowIs L 4 V.n (fun i => .bool (ld i))
  rb : W.rowIs Bk 21 V.n (fun i => .int .i32 (bk i))
  rs : W.ownsRow (w.heap.size + 5) 21 1 (.slice (some ⟨St, 0, none⟩) len (cb ld V.n + 1)) len S

section
variable {V : VE} {w : World} {ld : Nat → Bool} {L Bk St : Nat} {bk : Nat → Int} {S : List Value} {len : Nat} {W W' : World}

theorem MW.setB (h : MW V w ld L Bk St bk S len W) (B : MB w.heap.size L Bk St) (z : Nat) (v : Int) : MW V w ld L Bk St (upd bk z v) S len (W.setCell ⟨Bk, z, none⟩ (.int .i32 v)) :=
  ⟨h.vb.later ((Below.refl _ _).setCell B.b _), h.rl.setOther B.lb _, upd_row h.rb z v, h.rs.kept (grow_set _ _ _ _) (ne_block (Ne.symm B.bs))⟩

theorem MW.alloc (h : MW V w ld L Bk St bk S len W) (o : Obj) : MW V w ld L Bk St bk S len (W.alloc o) :=
  ⟨h.vb.later ((Below.refl _ _).alloc h.vb.env.big _), h.rl.alloc _, h.rb.alloc _, h.rs.alloc _⟩

theorem MW.push (h : MW V w ld L Bk St bk S len W) (B : MB w.heap.size L Bk St) (hg : W.grownBy W' (some St)) {len' : Nat} {S' : List Value} (ho : W'.ownsRow (w.heap.size + 5) 21 1 (.slice (some ⟨St, 0, none⟩) len' (cb ld V.n + 1)) len' S') : MW V w ld L Bk St bk S' len' W' :=
  ⟨h.vb.later ((Below.refl _ _).grown hg h.vb.env.big (fun k e => by injection e with e; have := B.s; omega)), h.rl.of_block (hg.block _ h.rl.lt (fun e => by injection e with e; exact B.ls e)), h.rb.of_block (hg.block _ h.rb.lt (fun e => by injection e with e; exact B.bs e)), ho⟩
end

/-- block and starts are made: region 38 is next -/
def RelV3 (V : VE) (w : World) (a : Act) (W : World) : Prop :=
  ∃ (x : Nat → Value) (L Bk St : Nat) (ld : Nat → Bool), a = ⟨(fv x w.heap.size V.n (.slice (some ⟨L, 0, none⟩) V.n V.n) (.int .i64 (cb ld V.n : Int)) (.slice (some ⟨Bk, 0, none⟩) V.n V.n) (.slice (some ⟨St, 0, none⟩) 0 (cb ld V.n + 1)) (x 26) (x 31) (x 33) (x 34) (x 35) (x 37) (x 38)).toArray, []⟩ ∧
    0 < V.n ∧ MB w.heap.size L Bk St ∧ MW V w ld L Bk St (fun _ => 0) [] 0 W ∧ ∀ i, i < V.n → (ld i = true ↔ Lead V.n V.kd V.tg i)

theorem RelV3.mk {V : VE} {w : World} {l : List Value} {W : World} {L Bk St : Nat} {ld : Nat → Bool} (hf : l = fv (nth l) w.heap.size V.n (.slice (some ⟨L, 0, none⟩) V.n V.n) (.int .i64 (cb ld V.n : Int)) (.slice (some ⟨Bk, 0, none⟩) V.n V.n) (.slice (some ⟨St, 0, none⟩) 0 (cb ld V.n + 1)) (nth l 26) (nth l 31) (nth l 33) (nth l 34) (nth l 35) (nth l 37) (nth l 38))
    (h2 : 0 < V.n) (h3 : MB w.heap.size L Bk St) (h4 : MW V w ld L Bk St (fun _ => 0) [] 0 W) (h5 : ∀ i, i < V.n → (ld i = true ↔ Lead V.n V.kd V.tg i)) : RelV3 V w ⟨l.toArray, []⟩ W :=
  ⟨nth l, L, Bk, St, ld, by rw [← hf], h2, h3, h4, h5⟩

set_option maxHeartbeats 8000000 in
theorem vars_count {V : VE} {w : World} (hin : V.In w) (hnext : ∀ a W, RelV3 V w a W → (tail11 15).wp Yba.prog (bodyPost Yba.prog Yba.f11 (varsR V w)) a W) :
    ∀ a W, RelV2 V w a W → (tail11 12).wp Yba.prog (bodyPost Yba.prog Yba.f11 (varsR V w)) a W := by
  rintro a W ⟨x, L, ld, rfl, hvb, h0, hrow, hL, hld⟩
  have hn4 := hin.n4
  have HX : Aside (∀ a W, RelV3 V w a W → (tail11 15).wp Yba.prog (bodyPost Yba.prog Yba.f11 (varsR V w)) a W) := hnext
  unfold fv
  conv => arg 2; whnf
  have A : Aside (VB V w W ∧ W.rowIs L 4 V.n (fun i => .bool (ld i)) ∧ ∀ i, i < V.n → (ld i = true ↔ Lead V.n V.kd V.tg i)) := ⟨hvb, hrow, hld⟩
  clear hvb hrow hld hin hnext
  go_wp2
  go_loopg [109, 19] V.n (fun gk s109 s19 wr => ∃ (j : Nat), j ≤ V.n ∧ gk = V.n - j ∧ s109 = .int .i64 (j : Int) ∧ s19 = .int .i64 (cb ld j : Int) ∧ wr = W)
  case atStart => exact ⟨0, by omega, rfl, rfl, rfl, rfl⟩
  case round =>
    obtain ⟨j, hj, rfl, rfl, rfl, rfl⟩ := hrel
    by_cases hlt : j < V.n
    · have hi4 : (j : Int) < (V.n : Int) := by omega
      have c1 := A.out.2.1.cell hlt
      have hcl := cb_le ld j
      have hcli : (cb ld j : Int) ≤ 4096 := by omega
      obtain ⟨v, ev⟩ : ∃ v, v = ld j := ⟨_, rfl⟩
      rw [← ev] at c1
      have E : Aside (v = ld j) := ev
      obtain ⟨c, ec⟩ : ∃ c, c = cb ld j := ⟨_, rfl⟩
      rw [← ec] at hcli hcl ⊢
      have E2 : Aside (c = cb ld j) := ec
      clear ev ec
      cases v with
      | true =>
        go_wp2
        go_roundg (V.n - (j + 1))
        case measure => omega
        case rel =>
          refine ⟨j + 1, by omega, rfl, by go_num, ?_, rfl⟩
          rw [cb_yes E.out.symm, ← E2.out]
          go_num
      | false =>
        go_wp2
        go_roundg (V.n - (j + 1))
        case measure => omega
        case rel =>
          refine ⟨j + 1, by omega, rfl, by go_num, ?_, rfl⟩
          rw [cb_no E.out.symm, ← E2.out]
    · obtain rfl : j = V.n := by omega
      have hcl := cb_le ld V.n
      have hcli : (cb ld V.n : Int) ≤ 4096 := by omega
      obtain ⟨N, eN⟩ : ∃ N, N = cb ld V.n := ⟨_, rfl⟩
      rw [← eN] at hcl hcli ⊢
      have EN : Aside (N = cb ld V.n) := eN
      have hmk1 := make_lc .i32 .i32 V.n V.n (by omega) (by omega)
      have hmk2 := make_lc .i64 .i64 0 (N + 1) (by omega) (by omega)
      rw [show ((0 : Nat) : Int) = 0 from rfl, show ((N + 1 : Nat) : Int) = (N : Int) + 1 by omega] at hmk2
      clear eN hlt
      go_wp2
      rename_i hK
      have hK' : ∀ a W, RelV3 V w a W → _ := fun a W h => hK a W (HX.out a W h)
      clear hK
      go_region
      all_goals
        obtain ⟨hvb, hrow, hld⟩ := A.out
        have hlt := hrow.lt
        have hbig := hvb.env.big
        have eN := EN.out
        refine hK' _ _ ?_
      · refine RelV3.mk (ld := ld) (by rw [← eN]; rfl) h0 (L := L) (Bk := wr.heap.size) (St := wr.heap.size + 1) ⟨hL, by omega, by omega, by omega, by omega, by omega⟩ ⟨?_, ?_, ?_, ?_⟩ hld
        · exact hvb.later ((((Below.refl _ _).alloc hbig _).alloc (by simp; omega) _).drew)
        · exact (hrow.alloc _).alloc _
        · exact (madeRow wr V.n).alloc _
        · have h := owns_made (wr.alloc (.cells (madeCells #[.int .i32 0] V.n) 21)) (w.heap.size + 5) 0 (N + 1) (by simp; omega) (by omega) (by omega)
          rw [World.size_alloc, eN] at h
          rw [eN]
          exact h
      · refine RelV3.mk (ld := ld) (by rw [← eN]; rfl) h0 (L := L) (Bk := wr.heap.size + 1) (St := wr.heap.size) ⟨hL, by omega, by omega, by omega, by omega, by omega⟩ ⟨?_, ?_, ?_, ?_⟩ hld
        · exact hvb.later ((((Below.refl _ _).alloc hbig _).alloc (by simp; omega) _).drew)
        · exact (hrow.alloc _).alloc _
        · have h := madeRow (wr.alloc (.cells (madeCells #[.int .i32 0] (N + 1)) 21)) V.n
          rw [World.size_alloc] at h
          exact h
        · have h := World.ownsRow.alloc (owns_made wr (w.heap.size + 5) 0 (N + 1) (by omega) (by omega) (by omega)) (.cells (madeCells #[.int .i32 0] V.n) 21)
          rw [eN] at h
          rw [eN]
          exact h
end Go.Proofs.Ybulkexnju.W
