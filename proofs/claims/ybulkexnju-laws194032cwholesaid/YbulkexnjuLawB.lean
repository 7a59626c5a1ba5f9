/-
  The law: an instruction's kind and operand.
-/
import Derived.Test.YbulkexnjuLawA
namespace Go.Proofs.Ybulkexnju.W
open Go.RowKit Go.Proofs.Ybulkexnju.G
set_option linter.unusedVariables false
set_option maxRecDepth 100000

theorem BB_eq : BB = .seq (leftOf BB) (.seq (leftOf (right 1 BB)) (.seq (leftOf (right 2 BB)) (.seq (leftOf (right 3 BB)) (.seq (leftOf (right 4 BB)) (.seq (leftOf (right 5 BB)) (.seq (leftOf (right 6 BB)) (right 7 BB))))))) := rfl

theorem LB.pre {d : LD} {i H e0 : Nat} {W : World} (h : LB d i i W) (eH : H = d.H) (he : e0 = 5 * i) (o : Obj) :
    LB d i (i + 1) (((W.alloc o).setCell ⟨H + 1, i, none⟩ (.int .i64 (e0 : Int))).setCell ⟨H + 3, e0, none⟩ (.int .i32 (i : Int))) := by
  subst eH
  have h1 := h.later ((Below.refl _ _).alloc h.big o)
  have n01 : d.H ≠ d.H + 1 := by omega
  have n03 : d.H ≠ d.H + 3 := by omega
  have n13 : d.H + 1 ≠ d.H + 3 := by omega
  have n21 : d.H + 2 ≠ d.H + 1 := by omega
  have n23 : d.H + 2 ≠ d.H + 3 := by omega
  have n31 : d.H + 3 ≠ d.H + 1 := by omega
  have n41 : d.H + 4 ≠ d.H + 1 := by omega
  have n43 : d.H + 4 ≠ d.H + 3 := by omega
  have n51 : d.H + 5 ≠ d.H + 1 := by omega
  have n53 : d.H + 5 ≠ d.H + 3 := by omega
  have s1 : d.H ≤ d.H + 1 := by omega
  have s3 : d.H ≤ d.H + 3 := by omega
  refine ⟨(h1.r0.setOther n01 _).setOther n03 _, ((h1.r1.set i _).setOther n13 _).congr (fun j _ => ?_), (h1.r2.setOther n21 _).setOther n23 _, ((h1.r3.setOther n31 _).set e0 _).congr (fun e _ => ?_), (h1.r4.setOther n41 _).setOther n43 _, (h1.r5.setOther n51 _).setOther n53 _,
    (h1.bel.setCell (p := ⟨d.H + 1, i, none⟩) s1 _).setCell (p := ⟨d.H + 3, e0, none⟩) s3 _⟩
  · by_cases c : j = i
    · rw [if_pos c, if_pos (by omega), he, c]; congr 1
    · rw [if_neg c]
      by_cases c2 : j < i
      · rw [if_pos c2, if_pos (by omega)]
      · rw [if_neg c2, if_neg (by omega)]
  · by_cases c : e = e0
    · rw [if_pos c, if_pos (by omega)]
      unfold idxV
      rw [if_pos (by omega), show e / 5 = i by omega]
    · rw [if_neg c]
      by_cases c2 : e < 5 * i
      · rw [if_pos c2, if_pos (by omega)]
      · rw [if_neg c2]
        by_cases c3 : e < 5 * (i + 1)
        · rw [if_pos c3]
          unfold idxV
          rw [if_neg (by omega)]
        · rw [if_neg c3]

set_option maxHeartbeats 16000000 in
theorem build_head {d : LD} (hd : d.Ok) {b off cap : Nat} {i : Nat} (hi : i < d.n) {Q : Exit → Act → World → Prop} (hnext : ∀ a W, RelK d (.slice (some ⟨b, off, none⟩) d.n cap) i a W → (right 7 BB).wp Yba.prog Q a W)
    (ho : ∀ W, Below d.H d.w W → W.cell? ⟨b, off + i * 2, none⟩ = some (.int .u8 (d.O i : Int)) ∧ W.cell? ⟨b, off + i * 2 + 1, none⟩ = some (.int .u16 (d.A i : Int))) :
    ∀ a W, RelH d (.slice (some ⟨b, off, none⟩) d.n cap) i i a W → BB.wp Yba.prog Q a W := by
  rintro a W ⟨x, rfl, hlb⟩
  have hn4 := hd.n4
  have hii : (i : Int) < (d.n : Int) := by omega
  obtain ⟨q1, q2⟩ := ho W hlb.bel
  rw [BB_eq]
  generalize hR : right 7 BB = R at *
  generalize h0 : leftOf BB = c0
  generalize h1 : leftOf (right 1 BB) = c1
  generalize h2 : leftOf (right 2 BB) = c2
  generalize h3 : leftOf (right 3 BB) = c3
  generalize h4 : leftOf (right 4 BB) = c4
  generalize h5 : leftOf (right 5 BB) = c5
  generalize h6 : leftOf (right 6 BB) = c6
  conv at h0 => lhs; whnf
  conv at h1 => lhs; whnf
  conv at h2 => lhs; whnf
  conv at h3 => lhs; whnf
  conv at h4 => lhs; whnf
  conv at h5 => lhs; whnf
  conv at h6 => lhs; whnf
  subst h0 h1 h2 h3 h4 h5 h6
  have A : Aside (LB d i i W) := hlb
  obtain ⟨H, eH⟩ : ∃ H, H = d.H := ⟨_, rfl⟩
  obtain ⟨m5, hm5⟩ : ∃ m5, m5 = 5 * d.n := ⟨_, rfl⟩
  obtain ⟨e0, he0⟩ : ∃ e0, e0 = 5 * i := ⟨_, rfl⟩
  have b5 : 5 * (i : Int) = (e0 : Int) := by omega
  have g0 : (e0 : Int) < (m5 : Int) := by omega
  have E : Aside (H = d.H ∧ m5 = 5 * d.n ∧ e0 = 5 * i) := ⟨eH, hm5, he0⟩
  unfold frL1 fl
  rw [← hm5, ← eH]
  have W1 := W.alloc (.cells #[.int .u8 (d.O i : Int), .int .u16 (d.A i : Int)] 60)
  have hlb1 : LB d i i (W.alloc (.cells #[.int .u8 (d.O i : Int), .int .u16 (d.A i : Int)] 60)) := hlb.later ((Below.refl _ _).alloc hlb.big _)
  have hbig := hlb.big
  rw [← eH] at hbig
  have r1 := hlb1.r1
  have r3 := hlb1.r3
  rw [← eH] at r1 r3
  have s1 : H + 1 ≠ H + 3 := by omega
  have c1 := r1.cell hi
  have f1 := r1.frozen i
  have r3' := r3.setOther (a := ⟨H + 1, i, none⟩) (Ne.symm s1) (.int .i64 (e0 : Int))
  have c3 := r3'.cell (i := e0) (by omega)
  have f3 := r3'.frozen e0
  have np1 : W.heap.size ≠ H + 1 := by omega
  have np3 : W.heap.size ≠ H + 3 := by omega
  have rp := World.rowIs_alloc W #[.int .u8 (d.O i : Int), .int .u16 (d.A i : Int)] 60 (fun j => if j = 0 then .int .u8 (d.O i : Int) else .int .u16 (d.A i : Int)) (fun j hj => by
    have : j = 0 ∨ j = 1 := by simp at hj; omega
    rcases this with e | e <;> subst e <;> rfl)
  have rp2 := (rp.setOther (a := ⟨H + 1, i, none⟩) np1 (.int .i64 (e0 : Int))).setOther (a := ⟨H + 3, e0, none⟩) np3 (.int .i32 (i : Int))
  have p0 := rp2.cell (i := 0) (by simp)
  have p1 := rp2.cell (i := 1) (by simp)
  rw [if_pos rfl] at p0
  rw [if_neg (by omega)] at p1
  clear W1 r1 r3 r3' rp rp2 hlb1
  have HX : Aside (∀ a W, RelK d (.slice (some ⟨b, off, none⟩) d.n cap) i a W → R.wp Yba.prog Q a W) := hnext
  clear hlb hnext eH hm5 he0 ho hR
  conv => arg 3; whnf
  have hns1 := hd.ns1
  have hns0 : ¬ d.ns = 0 := by omega
  have hn0 : ¬ d.n = 0 := by omega
  have hA := hd.ab i hi
  have wA : wrap64 (d.A i : Int) = (d.A i : Int) := by unfold wrap64; omega
  obtain ⟨xs, exs⟩ : ∃ xs, xs = d.A i % d.ns := ⟨_, rfl⟩
  obtain ⟨xn, exn⟩ : ∃ xn, xn = d.A i % d.n := ⟨_, rfl⟩
  have hms : (d.A i : Int).tmod (d.ns : Int) = (xs : Int) := by rw [exs, Int.ofNat_tmod]
  have hmn : (d.A i : Int).tmod (d.n : Int) = (xn : Int) := by rw [exn, Int.ofNat_tmod]
  have hxn4 : (xn : Int) < 4096 := by have := Nat.mod_lt (d.A i) (show d.n > 0 by omega); omega
  have EX : Aside (xs = d.A i % d.ns ∧ xn = d.A i % d.n) := ⟨exs, exn⟩
  clear exs exn
  obtain ⟨k, ek⟩ : ∃ k, k = d.O i % 9 := ⟨_, rfl⟩
  have hk : (d.O i : Int) % 9 = (k : Int) := by omega
  have EK : Aside (k = d.O i % 9) := ek
  have hk9 : k < 9 := by omega
  clear ek
  rcases kd_cases hk9 with rfl | rfl | rfl | rfl | rfl | rfl | rfl | rfl | rfl
  all_goals
    first
      | rw [show ((0 : Nat) : Int) = 0 from rfl] at hk
      | rw [show ((1 : Nat) : Int) = 1 from rfl] at hk
      | rw [show ((2 : Nat) : Int) = 2 from rfl] at hk
      | rw [show ((3 : Nat) : Int) = 3 from rfl] at hk
      | rw [show ((4 : Nat) : Int) = 4 from rfl] at hk
      | rw [show ((5 : Nat) : Int) = 5 from rfl] at hk
      | rw [show ((6 : Nat) : Int) = 6 from rfl] at hk
      | rw [show ((7 : Nat) : Int) = 7 from rfl] at hk
      | rw [show ((8 : Nat) : Int) = 8 from rfl] at hk
    go_wp2
    obtain ⟨eH, hm5, he0⟩ := E.out
    obtain ⟨exs, exn⟩ := EX.out
    have ekk : d.kd i = _ := EK.out.symm
    refine HX.out _ _ (RelK.mk ?_ (LB.pre A.out eH he0 _))
    have eXX : d.X i = if d.kd i ≤ 2 then xs else if d.kd i ≤ 5 then 5 * xn else d.A i := by rw [exs, exn]; rfl
    rw [ekk] at eXX
    unfold frL1
    rw [← eH, ← hm5, ekk, eXX]
    first
      | rfl
      | (rw [if_neg (by omega), if_pos (by omega), show ((5 * xn : Nat) : Int) = 5 * (xn : Int) by omega]; rfl)
end Go.Proofs.Ybulkexnju.W
