/-
  dominators, from its start to the makes of order and parent.
-/
import Derived.Test.YbulkexnjuDomA
namespace Go.Proofs.Ybulkexnju.W
open Go.RowKit Go.Proofs.Ybulkexnju.G
set_option linter.unusedVariables false

theorem make_lc (kl kc : IntKind) (l n : Nat) (hl : l ≤ n) (hn : n ≤ 1048576) (w : World) : (Instr.makeSlice 57 (.int kl (l : Int)) (.int kc (n : Int))).run Yba.prog w = .ok (.slice (some ⟨w.heap.size, 0, none⟩) l n) (w.alloc (.cells (madeCells #[.int .i32 0] n) 21)) := by
  obtain ⟨i, hi, hzz⟩ := Option.map_eq_some_iff.1 info21
  simp only [Prod.mk.injEq] at hzz
  obtain ⟨hz, hs, hb⟩ := hzz
  have hr := run_make (P := Yba.prog) w 57 21 i (.int .i32 0) Yba.underlying57 hi hz kl kc l n (by omega) (by omega) (by rw [hb]; omega) (by omega)
  simp only [Int.toNat_natCast, hs, Nat.mul_one] at hr
  exact hr

theorem owns_made (w : World) (base l n : Nat) (hb : base ≤ w.heap.size) (hl : l ≤ n) (hn : n ≤ 1048576) : (w.alloc (.cells (madeCells #[.int .i32 0] n) 21)).ownsRow base 21 1 (.slice (some ⟨w.heap.size, 0, none⟩) l n) l (List.replicate l (.int .i32 0)) := by
  refine ⟨by simp, .inr ⟨w.heap.size, n, _, rfl, hb, World.alloc_heap_new _ _, hl, by unfold maxLen; omega, by rw [size_madeCells, Nat.mul_one], ?_⟩⟩
  refine List.ext_getElem? (fun i => ?_)
  by_cases h : i < l
  · rw [List.getElem?_take_of_lt (by omega), Array.getElem?_toList]
    have := (madeRow w n)
    obtain ⟨c, h1, h2, h3⟩ := this
    have e : c = madeCells #[.int .i32 0] n := by
      have := World.alloc_heap_new w (.cells (madeCells #[.int .i32 0] n) 21)
      rw [this] at h1
      injection h1 with h1
      injection h1 with h1
      exact h1.symm
    subst e
    rw [h3 i (by omega)]
    simp [h]
  · rw [List.getElem?_eq_none (by simp; omega), List.getElem?_eq_none (by simp; omega)]

set_option maxRecDepth 100000 in
set_option maxHeartbeats 4000000 in
theorem dom_start {NB g : Nat} {sc : Nat → Int} {w : World} (hin : DomIn NB g sc w) (hnext : ∀ a W, Rel2 NB g sc w a W → (tail30 4).wp Yba.prog (bodyPost Yba.prog Yba.f30 (domR NB sc w)) a W) :
    Calls Yba.prog 30 #[.slice (some ⟨g, 0, none⟩) (2 * NB) (2 * NB)] w (domR NB sc w) := by
  go_enter Yba.func30, Yba.ntmps30
  have hn0 := hin.n0
  have hnb := hin.nb
  obtain ⟨M, hM⟩ : ∃ M : Nat, M = 2 * NB := ⟨_, rfl⟩
  rw [← hM]
  have hM2 : ((M : Nat) : Int) / 2 = (NB : Int) := by omega
  have hmk := run_make_row' (P := Yba.prog) 57 21 (.int .i32 0) 4 Yba.underlying57 (by kernel_rfl) (by kernel_rfl) .i64 .i64 NB (by omega) (by omega)
  have HR : Hid ((w.alloc (.cells (madeCells #[.int .i32 0] NB) 21)).rowIs w.heap.size 21 NB (fun _ => .int .i32 0)) := madeRow w NB
  have HX : Hid (∀ a W, Rel2 NB g sc w a W → (tail30 4).wp Yba.prog (bodyPost Yba.prog Yba.f30 (domR NB sc w)) a W) := hnext
  have HM : Hid (M = 2 * NB) := hM
  clear hnext hM hin
  go_wp2
  clear hmk
  go_loopg [38] NB (fun gk s38 wr => ∃ j, j ≤ NB ∧ gk = NB - j ∧ s38 = .int .i64 j ∧ wr.rowIs w.heap.size 21 NB (fun i => .int .i32 (if i < j then -1 else 0)) ∧ Below w.heap.size w wr ∧ wr.heap.size = w.heap.size + 1)
  case atStart =>
    refine ⟨0, by omega, by omega, rfl, HR.out.congr (fun i _ => by simp), (Below.refl _ _).alloc (Nat.le_refl _) _, by simp⟩
  case round =>
    obtain ⟨j, hj, rfl, rfl, hrow, hbel, hsz⟩ := hrel
    by_cases hlt : j < NB
    · have hji : (j : Int) < (NB : Int) := by omega
      have c1 := hrow.cell hlt
      have f1 := hrow.frozen j
      have A : Aside (wr.rowIs w.heap.size 21 NB (fun i => .int .i32 (if i < j then -1 else 0)) ∧ Below w.heap.size w wr ∧ wr.heap.size = w.heap.size + 1) := ⟨hrow, hbel, hsz⟩
      clear hrow hbel hsz
      go_wp2
      go_roundg (NB - (j + 1))
      case measure => omega
      case rel =>
        obtain ⟨hrow, hbel, hsz⟩ := A.out
        refine ⟨j + 1, by omega, rfl, by go_num, (hrow.set j _).congr (fun i _ => ?_), hbel.setCell (by simp) _, by simpa [World.setCell] using hsz⟩
        by_cases c : i = j
        · rw [if_pos c, if_pos (by omega)]
        · rw [if_neg c]
          by_cases c2 : i < j
          · rw [if_pos c2, if_pos (by omega)]
          · rw [if_neg c2, if_neg (by omega)]
    · obtain rfl : j = NB := by omega
      have A : Aside (wr.rowIs w.heap.size 21 j (fun i => .int .i32 (if i < j then -1 else 0)) ∧ Below w.heap.size w wr) := ⟨hrow, hbel⟩
      have hmk2 := make_lc .i64 .i64 1 j (by omega) (by omega)
      have HS : Hid (wr.heap.size = w.heap.size + 1) := hsz
      clear hrow hbel hlt hsz
      rw [show ((1 : Nat) : Int) = 1 from rfl] at hmk2
      go_wp2
      rename_i hK
      have hK' : ∀ a W, Rel2 j g sc w a W → _ := fun a W h => hK a W (HX.out a W h)
      clear hK
      go_region
      all_goals
        obtain ⟨hrow, hbel⟩ := A.out
        have hsz := HS.out
        have hM := HM.out
        refine hK' _ _ (Rel2.mk (by rw [← hM]; rfl) ?_ ?_ ?_ (by omega) ?_)
      all_goals first
        | exact ((hrow.congr (fun i hi => by rw [if_pos hi])).alloc _).alloc _
        | exact ((hbel.alloc (by omega) _).alloc (by simp; omega) _).drew
        | exact World.ownsRow.alloc (owns_made wr (w.heap.size + 1) 1 j (by omega) (by omega) (by omega)) _
        | (have h := owns_made (wr.alloc (.cells (madeCells #[.int .i32 0] j) 21)) (w.heap.size + 1) 1 j (by simp; omega) (by omega) (by omega)
           rw [World.size_alloc] at h
           exact h)
end Go.Proofs.Ybulkexnju.W
