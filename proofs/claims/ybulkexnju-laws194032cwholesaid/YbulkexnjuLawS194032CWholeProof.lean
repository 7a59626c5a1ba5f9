/-
  A proof of 'Rows.LawS194032CWholeSaid': the row's frame about the law's walk.
-/
import Derived.Test.YbulkexnjuLawJ
import Derived.ShutString
import Derived.ChangeOld
import Derived.Below
import Derived.Deep.SlicePairs
namespace Go.Proofs.Ybulkexnju.lawS194032CWhole
open Go.ChangeShapes Go.WideShapes Go.ChangeAt Go.RowKit
set_option linter.unusedVariables false

theorem own : ownKnob Yba.prog.godebug = none := by kernel_rfl
theorem laidOut : laidOutB Yba.prog = true := by kernel_rfl

theorem u8_nat {z : Int} (h : (Lit.int .u8 z).wf = true) : ∃ n : Nat, z = (n : Int) ∧ n < 256 := by
  have h2 : IntKind.u8.min ≤ z ∧ z ≤ IntKind.u8.max := by simpa [Lit.wf] using h
  rw [show IntKind.u8.min = 0 from rfl, show IntKind.u8.max = 255 from rfl] at h2
  exact ⟨z.toNat, by omega, by omega⟩

theorem u16_nat {z : Int} (h : (Lit.int .u16 z).wf = true) : ∃ n : Nat, z = (n : Int) ∧ n < 65536 := by
  have h2 : IntKind.u16.min ≤ z ∧ z ≤ IntKind.u16.max := by simpa [Lit.wf] using h
  rw [show IntKind.u16.min = 0 from rfl, show IntKind.u16.max = 65535 from rfl] at h2
  exact ⟨z.toNat, by omega, by omega⟩

/-- an address at which a cell is found bears no spot -/
theorem plain_of_cell {w : World} {x : Addr} {v : Value} (h : w.cell? (x.add 0) = some v) : x = ⟨x.block, x.off, none⟩ := by
  obtain ⟨b, o, sp⟩ := x
  cases sp with
  | none => rfl
  | some s =>
    exfalso
    unfold World.cell? at h
    simp [Addr.add] at h
    split at h <;> simp_all

/-- what the walk is told of the slice of instructions -/
def IsProg (w : World) (a : Option Addr) (len : Nat) (O A : Nat → Nat) : Prop :=
  len ≤ 9223372036854775807 ∧ (∀ i, i < len → O i < 256) ∧ (∀ i, i < len → A i < 65536) ∧
    (0 < len → ∃ b off, a = some ⟨b, off, none⟩ ∧ ∀ i, i < len → w.cell? ⟨b, off + i * 2, none⟩ = some (.int .u8 (O i : Int)) ∧ w.cell? ⟨b, off + i * 2 + 1, none⟩ = some (.int .u16 (A i : Int)))

theorem choose2 {n : Nat} {P : Nat → Nat → Nat → Prop} (h : ∀ i, i < n → ∃ a b, P i a b) : ∃ O A : Nat → Nat, ∀ i, i < n → P i (O i) (A i) := by
  induction n with
  | zero => exact ⟨fun _ => 0, fun _ => 0, fun i hi => absurd hi (Nat.not_lt_zero _)⟩
  | succ n ih =>
    obtain ⟨O, A, hOA⟩ := ih (fun i hi => h i (by omega))
    obtain ⟨a, b, hab⟩ := h n (by omega)
    refine ⟨fun i => if i = n then a else O i, fun i => if i = n then b else A i, fun i hi => ?_⟩
    by_cases e : i = n
    · subst e; simpa using hab
    · simp only [if_neg e]
      exact hOA i (by omega)

theorem walk (p s : Int) (a : Option Addr) (len cap : Nat) (O A : Nat → Nat) (w : World) (hp : (Lit.int .u8 p).wf = true) (hs : (Lit.int .u8 s).wf = true) (h : IsProg w a len O A) :
    Calls Yba.prog 4 #[.int .u8 p, .int .u8 s, .slice a len cap] w fun e w' => e = .returned (.bool true) ∧ Below w.heap.size w w' := by
  obtain ⟨p', rfl, hp'⟩ := u8_nat hp
  obtain ⟨s', rfl, hs'⟩ := u8_nat hs
  obtain ⟨h1, h2, h3, h4⟩ := h
  exact W.law_any hp' hs' h1 h2 h3 h4

/-! ### THE ROW's STEP -/
set_option maxRecDepth 100000 in
theorem lifted (os : Os) (started : os.Started) (H : Type) (enc : TypeId × Value → H) :
    ReturnsInHanded {} Yba.checked os 4 .any (Rows.lawS194032CWholeSpec.pre6 enc Yba.prog Yba.f4 Rows.lawS194032CWholeRow.domain false) (Rows.lawS194032CWholeSpec.post enc Yba.prog Yba.f4 false true false false) := by
  refine returnsInHanded_of_change (C := Yba.checked) own started (by kernel_rfl) Yba.func4
    (ChangeSpec.witness6 (enc := enc) (C := Yba.checked) false ⟨#[], #[.int .u8 0, .int .u8 0, .slice none 0 0], []⟩ 8 (by kernel_rfl) (by kernel_rfl) (by kernel_rfl) (by kernel_rfl)) ?_
  intro W base args ds gs before hval0 hW hcnd _
  have hval : ∀ (j : Nat) t v, Yba.f4.params[j]? = some t → args[j]? = some v → Value.okWide Yba.prog W .any base t v := hval0
  have hW' := hW
  obtain ⟨p, q, hA0, hV, rfl, hfz, hnd⟩ := hW
  have hA : DataW.TrodAll enc Yba.prog W 0 (fun _ => true) true Yba.f4.params.toList args.toList ds p := hA0
  rw [Yba.params4] at hA hval
  obtain ⟨v0, vs0, d0, ds0, p0, q0, hargs, rfl, rfl, h0, r0⟩ := trodAll_cons hA
  obtain ⟨v1, vs1, d1, ds1, p1, q1, rfl, rfl, rfl, h1, r1⟩ := trodAll_cons r0
  obtain ⟨v2, vs2, d2, ds2, p2, q2, rfl, rfl, rfl, h2, r2⟩ := trodAll_cons r1
  obtain ⟨rfl, rfl, rfl⟩ := trodAll_nil r2
  obtain rfl : args = #[v0, v1, v2] := by cases args; simp_all
  obtain ⟨rfl, rfl⟩ := trodVars_none hV
  obtain ⟨a0, rfl, rfl, rfl, w0⟩ := open_int Yba.underlying5 (hval 0 5 v0 rfl rfl) h0
  obtain ⟨a1, rfl, rfl, rfl, w1⟩ := open_int Yba.underlying5 (hval 1 5 v1 rfl rfl) h1
  obtain ⟨a2, len, cap, rfl⟩ := okWide_slice Yba.underlying54 (hval 2 54 v2 rfl rfl)
  have k2 := h2
  have lt2 : ∀ x ∈ p2, x.block < W.heap.size := by obtain ⟨m, hm⟩ := k2; exact DataW.trod_lt m _ _ _ hm
  obtain ⟨O, A, w2⟩ : ∃ O A, IsProg W a2 len O A := by
    obtain ⟨fuel, hf⟩ := h2
    rcases Deep.open_slice_pairs Yba.underlying54 Yba.underlying60 (by kernel_rfl) rfl rfl (by kernel_rfl) (by kernel_rfl) hf with ⟨hcs, _⟩ | ⟨x, l, c, m, n, V0, V1, D0, D1, P0, P1, hcs, _, hl, hm, hmm, _, hcell⟩
    · simp [Value.cells] at hcs
      obtain ⟨rfl, rfl, rfl⟩ := hcs
      exact ⟨fun _ => 0, fun _ => 0, by omega, fun i hi => by omega, fun i hi => by omega, fun h => by omega⟩
    · simp [Value.cells] at hcs
      obtain ⟨rfl, rfl, rfl⟩ := hcs
      have hlm : len ≤ m := by rw [hmm]; split <;> omega
      obtain ⟨O, A, hOA⟩ := choose2 (n := len) (P := fun i a b => W.cell? (x.add (i * 2)) = some (.int .u8 (a : Int)) ∧ W.cell? (x.add (i * 2 + 1)) = some (.int .u16 (b : Int)) ∧ a < 256 ∧ b < 65536) (fun i hi => by
        obtain ⟨e0, e1, t0, t1⟩ := hcell i (by omega)
        obtain ⟨z0, hz0, _, hw0⟩ := DataW.trod_int Yba.underlying5 t0
        obtain ⟨z1, hz1, _, hw1⟩ := DataW.trod_int Yba.underlying58 t1
        obtain ⟨n0, rfl, b0⟩ := u8_nat hw0
        obtain ⟨n1, rfl, b1⟩ := u16_nat hw1
        refine ⟨n0, n1, ?_, ?_, b0, b1⟩
        · rw [e0]; simpa using hz0
        · rw [e1]; simpa using hz1)
      refine ⟨O, A, by unfold maxLen at hm; omega, fun i hi => (hOA i hi).2.2.1, fun i hi => (hOA i hi).2.2.2, fun h0 => ?_⟩
      have hx := plain_of_cell (hOA 0 h0).1
      refine ⟨x.block, x.off, by rw [← hx], fun i hi => ?_⟩
      obtain ⟨c0, c1, _, _⟩ := hOA i hi
      rw [hx, Addr.add_lit] at c0 c1
      exact ⟨c0, c1⟩
  clear hA0 hval0
  refine (walk a0 a1 a2 len cap O A W w0 w1 w2).mono fun e W' ⟨he, bel⟩ => ?_
  subst he
  exact ⟨_, rfl, _, _, _, [], _, [], hW', trodAll_mk1 (shut_bool Yba.underlying4 _), (trodAll_cons_mk (shut_int Yba.underlying5 w0) (trodAll_cons_mk (shut_int Yba.underlying5 w1) (trodAll_cons_mk (Below.trod laidOut (by kernel_rfl) (of_decide_eq_true (by kernel_rfl)) k2 bel lt2) trodAll_mk0))), rfl, bel.frame _, fun h => by cases h⟩

theorem over : Rows.lawS194032CWholeRow.holds Yba.pinned (OpenSpec.ofChange Rows.lawS194032CWholeSpec) :=
  OpenClaim.holds_of_wide 4 Yba.f4 rfl rfl rfl rfl rfl rfl rfl ⟨rfl, rfl, rfl, rfl, rfl⟩ rfl rfl rfl rfl rfl (by kernel_rfl) Yba.func4 (by kernel_rfl)
    (of_decide_eq_true (by kernel_rfl)) (by unfold Func.isWrapper; first | (rw [if_pos (by decide +kernel)]; kernel_rfl) | (rw [if_neg (by decide +kernel)]; exact ⟨rfl, rfl⟩))
    (fun os started H enc _ => lifted os started H enc)

/-- ████ THE STATEMENT ████ -/
theorem proved : Rows.LawS194032CWholeSaid := over
end Go.Proofs.Ybulkexnju.lawS194032CWhole
