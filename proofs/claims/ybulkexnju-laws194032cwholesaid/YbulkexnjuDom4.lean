/-
  dominators: bucket and next are made.
-/
import Derived.Test.YbulkexnjuDom3
namespace Go.Proofs.Ybulkexnju.W
open Go.RowKit Go.Proofs.Ybulkexnju.G
set_option linter.unusedVariables false
set_option maxRecDepth 100000

theorem Six.below {K L : Nat} {b : Nat → Nat} {W W' : World} {L2 : Nat} (h : Six K L b W) (hb : Below L2 W W') (h2 : ∀ i, (i = 1 ∨ i = 3 ∨ i = 5 ∨ i = 6 ∨ i = 7 ∨ i = 8) → b i < L2) : Six K L b W' :=
  ⟨fun i hi => ⟨(h.ge i hi).1, Nat.lt_of_lt_of_le (h.ge i hi).2 hb.size⟩, h.ne, h.r1.of_block (hb.block _ (h2 1 (by omega))), h.r3.of_block (hb.block _ (h2 3 (by omega))), h.r5.of_block (hb.block _ (h2 5 (by omega))), h.c6.of_block (hb.block _ (h2 6 (by omega))), h.c7.of_block (hb.block _ (h2 7 (by omega))), h.c8.of_block (hb.block _ (h2 8 (by omega)))⟩

/-- behind region 32: region 33 is next -/
def Rel6 (NB g : Nat) (sc : Nat → Int) (w : World) (a : Act) (W : World) : Prop :=
  ∃ (x : Nat → Value) (bo bq S T K L L2 bk nx : Nat) (b : Nat → Nat) (num : Nat → Int) (ord par tv tj : Nat → Nat) (fst at_ : Nat → Int),
    a = ⟨(fr6 x (.slice (some ⟨bo, 0, none⟩) K NB) (.slice (some ⟨w.heap.size, 0, none⟩) NB NB) (.slice (some ⟨bq, 0, none⟩) K NB) (.int .i64 (K : Int)) (.slice (some ⟨S, 0, none⟩) (K + 1) (K + 2)) (.slice (some ⟨S + 1, 0, none⟩) T T)
      (.pointer (some ⟨b 6, 0, none⟩)) (.pointer (some ⟨b 7, 0, none⟩)) (.pointer (some ⟨b 8, 0, none⟩)) (.slice (some ⟨bk, 0, none⟩) K K) (.slice (some ⟨nx, 0, none⟩) K K)).toArray, []⟩ ∧
    DG NB K sc num ord par tv tj fst at_ bo bq S T w L W ∧ Six K L b W ∧ (∀ i, (i = 1 ∨ i = 3 ∨ i = 5 ∨ i = 6 ∨ i = 7 ∨ i = 8) → b i < L2) ∧ L2 ≤ bk ∧ L2 ≤ nx ∧ bk ≠ nx ∧ L ≤ L2 ∧
    W.rowIs bk 21 K (fun _ => .int .i32 0) ∧ W.rowIs nx 21 K (fun _ => .int .i32 0)

theorem Rel6.mk {NB g : Nat} {sc : Nat → Int} {w : World} {l : List Value} {W : World} {bo bq S T K L L2 bk nx : Nat} {b : Nat → Nat} {num : Nat → Int} {ord par tv tj : Nat → Nat} {fst at_ : Nat → Int}
    (hf : l = fr6 (nth l) (.slice (some ⟨bo, 0, none⟩) K NB) (.slice (some ⟨w.heap.size, 0, none⟩) NB NB) (.slice (some ⟨bq, 0, none⟩) K NB) (.int .i64 (K : Int)) (.slice (some ⟨S, 0, none⟩) (K + 1) (K + 2)) (.slice (some ⟨S + 1, 0, none⟩) T T)
      (.pointer (some ⟨b 6, 0, none⟩)) (.pointer (some ⟨b 7, 0, none⟩)) (.pointer (some ⟨b 8, 0, none⟩)) (.slice (some ⟨bk, 0, none⟩) K K) (.slice (some ⟨nx, 0, none⟩) K K))
    (h1 : DG NB K sc num ord par tv tj fst at_ bo bq S T w L W) (h2 : Six K L b W) (h3 : ∀ i, (i = 1 ∨ i = 3 ∨ i = 5 ∨ i = 6 ∨ i = 7 ∨ i = 8) → b i < L2) (h4 : L2 ≤ bk) (h5 : L2 ≤ nx) (h6 : bk ≠ nx) (h7 : L ≤ L2)
    (h8 : W.rowIs bk 21 K (fun _ => .int .i32 0)) (h9 : W.rowIs nx 21 K (fun _ => .int .i32 0)) : Rel6 NB g sc w ⟨l.toArray, []⟩ W :=
  ⟨nth l, bo, bq, S, T, K, L, L2, bk, nx, b, num, ord, par, tv, tj, fst, at_, by rw [← hf], h1, h2, h3, h4, h5, h6, h7, h8, h9⟩

set_option maxHeartbeats 4000000 in
theorem dom_lists {NB g : Nat} {sc : Nat → Int} {w : World} (hin : DomIn NB g sc w) (hnext : ∀ a W, Rel6 NB g sc w a W → (tail30 12).wp Yba.prog (bodyPost Yba.prog Yba.f30 (domR NB sc w)) a W) :
    ∀ a W, Rel5 NB g sc w a W → (tail30 11).wp Yba.prog (bodyPost Yba.prog Yba.f30 (domR NB sc w)) a W := by
  rintro a W ⟨x, s, bo, bq, S, T, K, L, b, num, ord, par, tv, tj, fst, at_, rfl, e6, e7, e8, hdg, six⟩
  have hKN := hdg.inv.kN
  have hnb := hin.nb
  have HX : Aside (∀ a W, Rel6 NB g sc w a W → (tail30 12).wp Yba.prog (bodyPost Yba.prog Yba.f30 (domR NB sc w)) a W) := hnext
  unfold fr31
  rw [e6, e7, e8]
  conv => arg 2; whnf
  have hmk := make_lc .i64 .i64 K K (Nat.le_refl _) (by omega)
  have A : Aside (DG NB K sc num ord par tv tj fst at_ bo bq S T w L W ∧ Six K L b W) := ⟨hdg, six⟩
  clear hdg six hin hnext e6 e7 e8
  go_wp2
  rename_i hK
  have hK' : ∀ a W, Rel6 NB g sc w a W → _ := fun a W h => hK a W (HX.out a W h)
  clear hK
  go_region
  all_goals
    obtain ⟨hdg, six⟩ := A.out
    have h5 := hdg.b5
    have hb : Below W.heap.size W ((W.alloc (.cells (madeCells #[.int .i32 0] K) 21)).alloc (.cells (madeCells #[.int .i32 0] K) 21)).drew := (((Below.refl _ W).alloc (Nat.le_refl _) _).alloc (by simp) _).drew
    have r1 : ((W.alloc (.cells (madeCells #[.int .i32 0] K) 21)).alloc (.cells (madeCells #[.int .i32 0] K) 21)).drew.rowIs W.heap.size 21 K (fun _ => .int .i32 0) := (madeRow W K).alloc _
    have r2 : ((W.alloc (.cells (madeCells #[.int .i32 0] K) 21)).alloc (.cells (madeCells #[.int .i32 0] K) 21)).drew.rowIs (W.heap.size + 1) 21 K (fun _ => .int .i32 0) := by
      have := madeRow (W.alloc (.cells (madeCells #[.int .i32 0] K) 21)) K
      rw [World.size_alloc] at this
      exact this
    refine hK' _ _ (Rel6.mk (b := b) (L := L) (L2 := W.heap.size) rfl (hdg.below (hb.mono h5)) (six.below hb (fun i hi => (six.ge i hi).2)) (fun i hi => (six.ge i hi).2) (by omega) (by omega) (by omega) h5 ?_ ?_)
  all_goals first | exact r1 | exact r2
end Go.Proofs.Ybulkexnju.W
