/-
  The law: from its start to the program built.
-/
import Derived.Test.YbulkexnjuLawB
namespace Go.Proofs.Ybulkexnju.W
open Go.RowKit Go.Proofs.Ybulkexnju.G
set_option linter.unusedVariables false
set_option maxRecDepth 100000

/-- what the law answers -/
def lawR (w : World) (e : Ending) (w' : World) : Prop := e = .returned (.bool true) ∧ Below w.heap.size w w'

/-- the program is built: region 53 is next -/
def RelL1 (d : LD) (a : Act) (W : World) : Prop :=
  ∃ (x : Nat → Value), a = ⟨(fl x d.H d.n d.ns d.np (5 * d.n) (x 16) (x 17) (x 18) (x 19) (x 20) (x 21) (x 22) (x 23) (x 24) (x 25) (x 26) (x 27) (x 31) (x 32) (x 33) (x 34) (x 36) (x 66) (x 67) (x 68)).toArray, []⟩ ∧ LB d d.n d.n W

theorem RelL1.mk {d : LD} {l : List Value} {W : World} (hf : l = fl (nth l) d.H d.n d.ns d.np (5 * d.n) (nth l 16) (nth l 17) (nth l 18) (nth l 19) (nth l 20) (nth l 21) (nth l 22) (nth l 23) (nth l 24) (nth l 25) (nth l 26) (nth l 27) (nth l 31) (nth l 32) (nth l 33) (nth l 34) (nth l 36) (nth l 66) (nth l 67) (nth l 68)) (h : LB d d.n d.n W) : RelL1 d ⟨l.toArray, []⟩ W :=
  ⟨nth l, by rw [← hf], h⟩

theorem make55 (kl kc : IntKind) (n : Nat) (hn : n ≤ 1048576) (w : World) : (Instr.makeSlice 55 (.int kl (n : Int)) (.int kc (n : Int))).run Yba.prog w = .ok (.slice (some ⟨w.heap.size, 0, none⟩) n n) (w.alloc (.cells (madeCells #[.int .u8 0] n) 61)) :=
  run_make_row' (P := Yba.prog) 55 61 (.int .u8 0) 1 Yba.underlying55 (by kernel_rfl) (by kernel_rfl) kl kc n (by omega) (by omega) w
theorem make46 (kl kc : IntKind) (n : Nat) (hn : n ≤ 1048576) (w : World) : (Instr.makeSlice 46 (.int kl (n : Int)) (.int kc (n : Int))).run Yba.prog w = .ok (.slice (some ⟨w.heap.size, 0, none⟩) n n) (w.alloc (.cells (madeCells #[.int .i64 0] n) 3)) :=
  run_make_row' (P := Yba.prog) 46 3 (.int .i64 0) 8 Yba.underlying46 (by kernel_rfl) (by kernel_rfl) kl kc n (by omega) (by omega) w
theorem make56 (kl kc : IntKind) (n : Nat) (hn : n ≤ 1048576) (w : World) : (Instr.makeSlice 56 (.int kl (n : Int)) (.int kc (n : Int))).run Yba.prog w = .ok (.slice (some ⟨w.heap.size, 0, none⟩) n n) (w.alloc (.cells (madeCells #[.int .u8 0] n) 5)) :=
  run_make_row' (P := Yba.prog) 56 5 (.int .u8 0) 1 Yba.underlying56 (by kernel_rfl) (by kernel_rfl) kl kc n (by omega) (by omega) w

theorem law_long (p s : Int) (a : Option Addr) (n cap : Nat) (w : World) (h : 4096 < n) (hl : n ≤ 9223372036854775807) : Calls Yba.prog 4 #[.int .u8 p, .int .u8 s, .slice a n cap] w (lawR w) := by
  have hi : (4096 : Int) < (n : Int) := by omega
  go_enter Yba.func4, Yba.ntmps4
  go_wp2
  go_ret
  exact ⟨rfl, Below.refl _ _⟩

/-- the body of the loop that builds the program, its head with it -/
noncomputable def LL : Code := unloop (unblock (sndOf (leftOf (tail4 11))))
theorem LL_eq : LL = .seq (leftOf LL) (.seq (leftOf (right 1 LL)) (right 2 LL)) := rfl

set_option maxHeartbeats 8000000 in
theorem law_start {d : LD} (hd : d.Ok) {p s cap : Nat} {a : Option Addr} (hp : p < 256) (hs : s < 256) (ens : d.ns = 1 + s % 8) (enp : d.np = p % (d.ns + 1))
    (hsl : 0 < d.n → ∃ b off, a = some ⟨b, off, none⟩ ∧ ∀ i, i < d.n → ∀ W, Below d.H d.w W → W.cell? ⟨b, off + i * 2, none⟩ = some (.int .u8 (d.O i : Int)) ∧ W.cell? ⟨b, off + i * 2 + 1, none⟩ = some (.int .u16 (d.A i : Int)))
    (hnext : ∀ a W, RelL1 d a W → (tail4 12).wp Yba.prog (bodyPost Yba.prog Yba.f4 (lawR d.w)) a W) :
    Calls Yba.prog 4 #[.int .u8 (p : Int), .int .u8 (s : Int), .slice a d.n cap] d.w (lawR d.w) := by
  have hn4 := hd.n4
  have hi4 : ¬ (4096 : Int) < (d.n : Int) := by omega
  have hi5 : decide ((4096 : Int) < (d.n : Int)) = false := decide_eq_false hi4
  have w1 : wrap64 (s : Int) = (s : Int) := by unfold wrap64; omega
  have w2 : wrap64 (p : Int) = (p : Int) := by unfold wrap64; omega
  have t1 : (s : Int).tmod 8 = ((s % 8 : Nat) : Int) := by rw [show (8 : Int) = ((8 : Nat) : Int) from rfl, Int.ofNat_tmod]
  obtain ⟨ns, e1⟩ : ∃ ns, ns = d.ns := ⟨_, rfl⟩
  obtain ⟨np, e2⟩ : ∃ np, np = d.np := ⟨_, rfl⟩
  have hns1 := hd.ns1
  have hns8 := hd.ns8
  rw [← e1] at hns1 hns8
  have t2 : 1 + ((s % 8 : Nat) : Int) = (ns : Int) := by rw [e1, ens]; omega
  have t3 : (p : Int).tmod ((ns : Int) + 1) = (np : Int) := by rw [e2, enp, ← e1, show (ns : Int) + 1 = ((ns + 1 : Nat) : Int) by omega, Int.ofNat_tmod]
  have t4 : ¬ (ns : Int) + 1 = 0 := by omega
  have u1 : (1 : Int) + (s : Int) % 8 = (ns : Int) := by omega
  have u2 : (p : Int) % ((ns : Int) + 1) = (np : Int) := by rw [e2, enp, ← e1, show (ns : Int) + 1 = ((ns + 1 : Nat) : Int) by omega]; rfl
  obtain ⟨m5, hm5⟩ : ∃ m5, m5 = 5 * d.n := ⟨_, rfl⟩
  have t5 : 5 * (d.n : Int) = (m5 : Int) := by omega
  have k55 := make55 .i64 .i64 d.n (by omega)
  have k46 := make46 .i64 .i64 d.n (by omega)
  have k56 := make56 .i64 .i64 m5 (by omega)
  have k57 := make_lc .i64 .i64 m5 m5 (Nat.le_refl _) (by omega)
  have E : Hid (ns = d.ns ∧ np = d.np ∧ m5 = 5 * d.n) := ⟨e1, e2, hm5⟩
  have HSL : Hid (0 < d.n → ∃ b off, a = some ⟨b, off, none⟩ ∧ ∀ i, i < d.n → ∀ W, Below d.H d.w W → W.cell? ⟨b, off + i * 2, none⟩ = some (.int .u8 (d.O i : Int)) ∧ W.cell? ⟨b, off + i * 2 + 1, none⟩ = some (.int .u16 (d.A i : Int))) := hsl
  have HX : Hid (∀ a W, RelL1 d a W → (tail4 12).wp Yba.prog (bodyPost Yba.prog Yba.f4 (lawR d.w)) a W) := hnext
  have HD : Hid d.Ok := hd
  clear hsl hnext hd ens enp e1 e2 hm5 hi4
  go_enter Yba.func4, Yba.ntmps4
  go_wp2
  clear k55 k46 k56 k57 t1 t2 t3 t4 t5 w1 w2 hi5 u1 u2
  rename_i K0 hK0
  have hK' : ∀ a W, RelL1 d a W → K0 a W := fun a W h => hK0 a W (HX.out a W h)
  clear hK0 HX
  have HS : Hid (LB d 0 0 ((((((d.w.alloc (.cells (madeCells #[.int .u8 0] d.n) 61)).alloc (.cells (madeCells #[.int .i64 0] d.n) 3)).alloc (.cells (madeCells #[.int .u8 0] m5) 5)).alloc (.cells (madeCells #[.int .i32 0] m5) 21)).alloc (.cells (madeCells #[.int .i64 0] d.n) 3)).alloc (.cells (madeCells #[.int .i64 0] d.n) 3))) := by
    obtain ⟨e1, e2, hm5⟩ := E.out
    subst hm5
    have q0 := World.rowIs_made d.w (.int .u8 0) d.n 61
    have q1 := World.rowIs_made (d.w.alloc (.cells (madeCells #[.int .u8 0] d.n) 61)) (.int .i64 0) d.n 3
    have q2 := World.rowIs_made ((d.w.alloc (.cells (madeCells #[.int .u8 0] d.n) 61)).alloc (.cells (madeCells #[.int .i64 0] d.n) 3)) (.int .u8 0) (5 * d.n) 5
    have q3 := World.rowIs_made (((d.w.alloc (.cells (madeCells #[.int .u8 0] d.n) 61)).alloc (.cells (madeCells #[.int .i64 0] d.n) 3)).alloc (.cells (madeCells #[.int .u8 0] (5 * d.n)) 5)) (.int .i32 0) (5 * d.n) 21
    have q4 := World.rowIs_made ((((d.w.alloc (.cells (madeCells #[.int .u8 0] d.n) 61)).alloc (.cells (madeCells #[.int .i64 0] d.n) 3)).alloc (.cells (madeCells #[.int .u8 0] (5 * d.n)) 5)).alloc (.cells (madeCells #[.int .i32 0] (5 * d.n)) 21)) (.int .i64 0) d.n 3
    have q5 := World.rowIs_made (((((d.w.alloc (.cells (madeCells #[.int .u8 0] d.n) 61)).alloc (.cells (madeCells #[.int .i64 0] d.n) 3)).alloc (.cells (madeCells #[.int .u8 0] (5 * d.n)) 5)).alloc (.cells (madeCells #[.int .i32 0] (5 * d.n)) 21)).alloc (.cells (madeCells #[.int .i64 0] d.n) 3)) (.int .i64 0) d.n 3
    simp only [World.size_alloc] at q1 q2 q3 q4 q5
    refine ⟨(((((q0.alloc _).alloc _).alloc _).alloc _).alloc _).congr (fun i _ => by simp), ((((q1.alloc _).alloc _).alloc _).alloc _).congr (fun i _ => by simp), (((q2.alloc _).alloc _).alloc _).congr (fun i _ => by simp), ((q3.alloc _).alloc _).congr (fun i _ => by simp), (q4.alloc _).congr (fun i _ => by simp), q5.congr (fun i _ => by simp), ?_⟩
    exact (((((((Below.refl _ _).alloc (Nat.le_refl _) _).alloc (by simp) _).alloc (by simp; omega) _).alloc (by simp; omega) _).alloc (by simp; omega) _).alloc (by simp; omega) _)
  refine wp_loop_ghost_k (fun k a' W => ∃ i, i ≤ d.n ∧ k = d.n - i ∧ RelH d (.slice a d.n cap) i i a' W) (d.n - 0) ?_ ?_
  · obtain ⟨e1, e2, hm5⟩ := E.out
    subst e1 e2 hm5
    exact ⟨0, by omega, rfl, RelH.mk rfl HS.out⟩
  · rintro k a' wr ⟨i, hi1, rfl, hR⟩ J KJ hJ hKJ
    clear HS
    by_cases hlt : i < d.n
    · obtain ⟨b, off, ha, hcell⟩ := HSL.out (by omega)
      subst ha
      have hie : (i : Int) < (d.n : Int) := by omega
      have hX : ∀ a2 W2, RelH d (.slice (some ⟨b, off, none⟩) d.n cap) i i a2 W2 → (right 2 LL).wp Yba.prog (Exit.then KJ (Exit.inBlock 0 (Exit.then K0 (bodyPost Yba.prog Yba.f4 (lawR d.w))))) a2 W2 := by
        intro a2 W2 h2
        refine wp_seq_k (x := .block 1 BB) (fun K2 hK2 => wp_block ?_)
        refine build_head HD.out hlt (build_tail HD.out hlt (fun a3 W3 h3 => hK2 a3 W3 ?_)) (hcell i hlt) a2 W2 h2
        obtain ⟨y3, rfl, hlb3⟩ := h3
        have hi4 : (i : Int) < 4096 := by omega
        have A2 : Aside (LB d (i + 1) (i + 1) W3) := hlb3
        have HJ : Aside (∀ k a' w', (∃ i, i ≤ d.n ∧ k = d.n - i ∧ RelH d (.slice (some ⟨b, off, none⟩) d.n cap) i i a' w') → J k a' w') := hJ
        have HKJ : Aside (∀ a' w', Handed J (d.n - i) a' w' → KJ a' w') := hKJ
        clear hlb3 hJ hKJ hK2 h2 hK' hcell HSL hR
        unfold frL1 fl
        conv => arg 2; whnf
        go_wp2
        refine HKJ.out _ _ (Handed.intro (d.n - (i + 1)) (by omega) (HJ.out _ _ _ ⟨i + 1, by omega, rfl, RelH.mk (by unfold frL1; rw [show ((i + 1 : Nat) : Int) = (i : Int) + 1 by omega]; rfl) A2.out⟩))
      obtain ⟨y, rfl, hlb⟩ := hR
      change LL.wp Yba.prog _ _ _
      rw [LL_eq]
      generalize right 2 LL = R at *
      generalize h0 : leftOf LL = c0
      generalize h1 : leftOf (right 1 LL) = c1
      conv at h0 => lhs; whnf
      conv at h1 => lhs; whnf
      subst h0 h1
      have A3 : Aside (∀ a2 W2, RelH d (.slice (some ⟨b, off, none⟩) d.n cap) i i a2 W2 → R.wp Yba.prog (Exit.then KJ (Exit.inBlock 0 (Exit.then K0 (bodyPost Yba.prog Yba.f4 (lawR d.w))))) a2 W2) := hX
      have A4 : Aside (LB d i i wr) := hlb
      clear hX hlb hJ hKJ hK' hcell HSL
      unfold frL1 fl
      conv => arg 3; whnf
      go_wp2
      exact A3.out _ _ (RelH.mk rfl A4.out)
    · obtain rfl : i = d.n := by omega
      obtain ⟨y, rfl, hlb⟩ := hR
      have A4 : Aside (LB d d.n d.n wr) := hlb
      have HK' : Aside (∀ a W, RelL1 d a W → K0 a W) := hK'
      clear hlb hJ hKJ hK' HSL hlt
      unfold frL1 fl
      conv => arg 2; whnf
      go_wp2
      exact HK'.out _ _ (RelL1.mk rfl A4.out)
end Go.Proofs.Ybulkexnju.W
