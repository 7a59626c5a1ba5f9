/-
  A proof of 'Rows.LawS194024CWholeSaid': the frame is the given shell's; the contracts and the walk are filled in.
-/
import Derived.Test.YbulkexnfmRows
import Derived.WalkKit
import Derived.ProofKit
import Derived.OpenShut
import Derived.ShutString
import Derived.WalkSpells
import Derived.WalkLawsBesides
namespace Go.Proofs.Ybulkexnfm.lawS194024CWhole
open Go.ChangeShapes Go.WideShapes Go.ChangeAt Go.RowKit
open Go.ChangeMaps (open_string shut_string)
set_option linter.unusedVariables false      -- a walk need not use every 'w<i>' (that an integer argument fits its kind)

theorem own : ownKnob Yba.prog.godebug = none := by kernel_rfl

/-- the step default(v), plainly -/
def pick (v x : ByteArray) (ok : Bool) : ByteArray := if ok = true ∧ x.size ≠ 0 then x else v

theorem make_any (a0 : ByteArray) (w : World) :
    Calls Yba.prog 4 #[.string a0] w fun e w' => e = .returned (.func (Fn.func 6) #[] #[.pointer (some ⟨w.heap.size, 0, none⟩)]) ∧ w' = w.alloc (.cells #[.string a0] 9) := by
  go_enter Yba.func4, Yba.ntmps4
  go_wp2
  go_ret
  exact ⟨rfl, rfl⟩

theorem empty_iff (x : ByteArray) : x.toList.isEmpty = decide (x.size = 0) := by
  have e : x.size = x.data.toList.length := rfl
  rw [ByteArray.toList_eq, e]
  cases x.data.toList <;> rfl

theorem expect_any (v x : ByteArray) (ok : Bool) (w : World) (h0 : x.size ≤ maxLen) :
    Calls Yba.prog 5 #[.string v, .string x, .bool ok] w fun e w' => e = .returned (.tuple #[.string (pick v x ok), .bool true]) ∧ w' = w := by
  unfold maxLen at h0
  by_cases hz : x.size = 0
  · cases ok
    all_goals
      go_enter Yba.func5, Yba.ntmps5
      go_wp2
      go_ret2
      exact ⟨by simp [pick, hz], rfl⟩
  · have hz' : ((x.size : Int) == 0) = false := by rw [beq_eq_false_iff_ne]; omega
    cases ok
    all_goals
      go_enter Yba.func5, Yba.ntmps5
      go_wp2
      go_ret2
      exact ⟨by simp [pick, hz], rfl⟩

theorem step_any (v x : ByteArray) (ok : Bool) (p : Value) (a : Addr) (w : World) (hc : w.cell? a = some (.string v)) :
    Calls Yba.prog 6 #[.string x, .bool ok, p, .pointer (some a)] w fun e w' => e = .returned (.tuple #[.string (pick v x ok), .bool true]) ∧ w' = w := by
  obtain ⟨b, o, r⟩ := a
  have he := empty_iff x
  by_cases hz : x.size = 0
  · have he' : x.toList.isEmpty = true := by rw [he]; simpa using hz
    have hp : ∀ ok, pick v x ok = v := fun ok => by simp [pick, hz]
    clear he
    cases ok
    all_goals
      go_enter Yba.func6, Yba.ntmps6
      go_wp2
      go_ret2
      exact ⟨by simp [hp], rfl⟩
  · have he' : x.toList.isEmpty = false := by rw [he]; simpa using hz
    clear he
    cases ok
    all_goals
      go_enter Yba.func6, Yba.ntmps6
      go_wp2
      go_ret2
      exact ⟨by simp [pick, hz], rfl⟩

/-! ### STEP 1: THE WALK: the Go text returns true. 'Grown w w'': the world has at most new blocks (Derived/RowKit3.lean). Part the cases AHEAD of 'go_enter' where a test parts the walk; take each callee by a contract of your own. -/
set_option maxRecDepth 100000 in
set_option maxHeartbeats 400000 in
theorem walk (a0 : ByteArray) (a1 : ByteArray) (a2 : Bool) (a3 : Bool) (w0 : a0.size ≤ maxLen) (w1 : a1.size ≤ maxLen) (w : World) :
    Calls Yba.prog 3 #[.string a0, .string a1, .bool a2, .bool a3] w fun e w' => e = .returned (.bool true) ∧ Grown w w' := by
  have hrun : ∀ fn first captured (w : World), Sem.run Yba.prog (binOp BinOp.eql 23 (Value.func fn first captured) Value.nilFunc) w = .ok (.bool false) w := fun _ _ _ _ => by kernel_rfl
  cases a3
  all_goals
    go_enter Yba.func3, Yba.ntmps3
    go_wp2_with fail
    refine (make_any _ _).mono ?_
    rintro e w' ⟨rfl, rfl⟩
    go_wp2_with fail
    refine (step_any a0 _ _ _ _ _ ?_).mono ?_
    · go_simp
    rintro e w' ⟨rfl, rfl⟩
    go_wp2_with fail
    refine (expect_any _ _ _ _ w1).mono ?_
    rintro e w' ⟨rfl, rfl⟩
    go_wp2_with fail
    refine (step_any a0 _ _ _ _ _ ?_).mono ?_
    · go_simp
    rintro e w' ⟨rfl, rfl⟩
    go_wp2
    go_ret
    exact ⟨rfl, by repeat (first | exact Grown.refl _ | apply Grown.drew | apply Grown.alloc)⟩

/-! ### THE ROW's STEP: WRITTEN OUT: LEAVE IT -/
set_option maxRecDepth 100000 in
theorem lifted (os : Os) (started : os.Started) (H : Type) (enc : TypeId × Value → H) :
    ReturnsInHanded {} Yba.checked os 3 .any (Rows.lawS194024CWholeSpec.pre6 enc Yba.prog Yba.f3 Rows.lawS194024CWholeRow.domain false) (Rows.lawS194024CWholeSpec.post enc Yba.prog Yba.f3 false true false false) := by
  refine returnsInHanded_of_change (C := Yba.checked) own started (by kernel_rfl) Yba.func3
    (ChangeSpec.witness6 (enc := enc) (C := Yba.checked) false ⟨#[], #[.string ByteArray.empty, .string ByteArray.empty, .bool false, .bool false], []⟩ 8 (by kernel_rfl) (by kernel_rfl) (by kernel_rfl) (by kernel_rfl)) ?_
  intro W base args ds gs before hval0 hW hcnd _
  have hval : ∀ (j : Nat) t v, Yba.f3.params[j]? = some t → args[j]? = some v → Value.okWide Yba.prog W .any base t v := hval0
  have hW' := hW
  obtain ⟨p, q, hA0, hV, rfl, hfz, hnd⟩ := hW
  have hA : DataW.TrodAll enc Yba.prog W 0 (fun _ => true) true Yba.f3.params.toList args.toList ds p := hA0
  rw [Yba.params3] at hA hval
  obtain ⟨v0, vs0, d0, ds0, p0, q0, hargs, rfl, rfl, h0, r0⟩ := trodAll_cons hA
  obtain ⟨v1, vs1, d1, ds1, p1, q1, rfl, rfl, rfl, h1, r1⟩ := trodAll_cons r0
  obtain ⟨v2, vs2, d2, ds2, p2, q2, rfl, rfl, rfl, h2, r2⟩ := trodAll_cons r1
  obtain ⟨v3, vs3, d3, ds3, p3, q3, rfl, rfl, rfl, h3, r3⟩ := trodAll_cons r2
  obtain ⟨rfl, rfl, rfl⟩ := trodAll_nil r3
  obtain rfl : args = #[v0, v1, v2, v3] := by cases args; simp_all
  obtain ⟨rfl, rfl⟩ := trodVars_none hV
  obtain ⟨a0, rfl, rfl, rfl, w0⟩ := open_string Yba.underlying9 (hval 0 9 v0 rfl rfl) h0
  obtain ⟨a1, rfl, rfl, rfl, w1⟩ := open_string Yba.underlying9 (hval 1 9 v1 rfl rfl) h1
  obtain ⟨a2, rfl, rfl, rfl⟩ := open_bool Yba.underlying4 (hval 2 4 v2 rfl rfl) h2
  obtain ⟨a3, rfl, rfl, rfl⟩ := open_bool Yba.underlying4 (hval 3 4 v3 rfl rfl) h3
  clear hA0 hval0
  simp only [List.append_nil] at hW'
  refine (walk a0 a1 a2 a3 w0 w1 W).mono fun e W' ⟨he, hg⟩ => ?_
  subst he
  exact ⟨_, rfl, post_of_same (pa := []) (pv := []) hW' (fun _ _ _ => (trodAll_cons_mk (shut_bool Yba.underlying4 _) trodAll_mk0)) (fun sp _ => (trodAll_cons_mk (shut_string Yba.underlying9 w0) (trodAll_cons_mk (shut_string Yba.underlying9 w1) (trodAll_cons_mk (shut_bool Yba.underlying4 _) (trodAll_cons_mk (shut_bool Yba.underlying4 _) trodAll_mk0))))) (fun _ _ => rfl) rfl
    (hg.frame _) hg.2.1 (ok_one (by kernel_rfl) rfl (okWide_bool_mk Yba.underlying4 _))⟩

theorem over : Rows.lawS194024CWholeRow.holds Yba.pinned (OpenSpec.ofChange Rows.lawS194024CWholeSpec) :=
  OpenClaim.holds_of_wide 3 Yba.f3 rfl rfl rfl rfl rfl rfl rfl ⟨rfl, rfl, rfl, rfl, rfl⟩ rfl rfl rfl rfl rfl (by kernel_rfl) Yba.func3 (by kernel_rfl)
    (of_decide_eq_true (by kernel_rfl)) (by unfold Func.isWrapper; first | (rw [if_pos (by decide +kernel)]; kernel_rfl) | (rw [if_neg (by decide +kernel)]; exact ⟨rfl, rfl⟩))
    (fun os started H enc _ => lifted os started H enc)

/-- ████ THE STATEMENT ████ -/
theorem proved : Rows.LawS194024CWholeSaid :=
  over
end Go.Proofs.Ybulkexnfm.lawS194024CWhole
