/-
  A proof of 'Rows.LawS194031BWholeSaid': the frame is the given shell's (its last lines by 'Below', for the law writes only into memory of its own); the contracts and the walk are filled in.
-/
import Derived.Test.YbulkexnjgRows
import Derived.WalkKit
import Derived.ProofKit
import Derived.OpenShut
import Derived.ShutString
import Derived.ChangeOld
import Derived.Below
import Derived.WalkSpells
import Derived.WalkLawsBesides
import Derived.Deep.QuietTactic
import Derived.BigQuiet
import Derived.Deep.RegionLaw
import Derived.Deep.AppendLies
import Derived.Deep.OwnRows
import Derived.LaidEqlPtr
import Derived.Lib.Builder
namespace Go.Proofs.Ybulkexnjg.lawS194031BWhole
open Go.ChangeShapes Go.WideShapes Go.ChangeAt Go.RowKit
open Go.ChangeMaps (open_string shut_string)
set_option linter.unusedVariables false      -- a walk need not use every 'w<i>' (that an integer argument fits its kind)

theorem own : ownKnob Yba.prog.godebug = none := by kernel_rfl

theorem zero189 : ∃ zs : Array Value, (∀ w, (Instr.build 189 #[]).run Yba.prog w = .ok (.agg zs) w) ∧ zs[153]? = some (.slice none 0 0) ∧ zs[236]? = some (.int .u64 0) ∧ 236 < zs.size :=
  ⟨(((Yba.prog.info? 189).bind fun i => i.zero).getD .nilFunc).cells, fun w => by kernel_rfl, by kernel_rfl, by kernel_rfl, of_decide_eq_true (by kernel_rfl)⟩
theorem zero204 : ∃ zs : Array Value, (∀ w, (Instr.build 204 #[]).run Yba.prog w = .ok (.agg zs) w) ∧ zs[5]? = some (.pointer none) ∧ 5 < zs.size :=
  ⟨(((Yba.prog.info? 204).bind fun i => i.zero).getD .nilFunc).cells, fun w => by kernel_rfl, by kernel_rfl, of_decide_eq_true (by kernel_rfl)⟩
theorem wpList_build0 {P : Program} (w : World) {ops : Array Oper} {rest : List Oper} {o : Oper} {a : Act} {Q : Exit → Act → World → Prop}
    (hg : o.guard = none) (t : TypeId) (hop : o.op = Op.build t #[]) (v : Value) (hrun : (Instr.build t #[]).run P w = .ok v w)
    (hK : wpList P ops Q rest (a.put o.dst v) w) : wpList P ops Q (o :: rest) a w := by
  refine wpList_plain hg fun K hK' => ?_
  unfold Oper.wp
  simp [execOp, hop, hrun, Result.andThen]
  exact hK' _ _ hK
/-- the zero value of roomFound, as far as it is read -/
theorem new_any (p : Value) (w : World) :
    Calls Yba.prog 6 #[p] w fun e w' => e = .returned (.pointer (some ⟨w.heap.size, 0, none⟩)) ∧ ∃ zF : Array Value, w' = w.alloc (.cells zF 216) ∧ zF[24]? = some (.int .u64 0) ∧ zF[26]? = some (.pointer none) ∧ 26 < zF.size := by
  go_enter Yba.func6, Yba.ntmps6
  go_wp2
  go_ret
  exact ⟨rfl, _, rfl, rfl, rfl, by simp⟩

theorem session_any (N : Nat) (w : World) (h : w.cell? ⟨N, 236, none⟩ = some (.int .u64 0)) :
    Calls Yba.prog 8 #[.pointer (some ⟨N, 0, none⟩)] w fun e w' => e = .returned (.int .u64 0) ∧ w' = w := by
  go_enter Yba.func8, Yba.ntmps8
  go_wp2
  go_ret
  exact ⟨rfl, rfl⟩

theorem clone_nil (w : World) :
    Calls Yba.prog 7 #[.slice none 0 0] w fun e w' => e = .returned (.slice none 0 0) ∧ w' = w := by
  have hq' := fun (a : Option Addr) (n c n' c' : Nat) (w : World) => Lib.run_eql_slice_nil (P := Yba.prog) w 138 192 a n c n' c' Yba.underlying138
  go_enter Yba.func7, Yba.ntmps7
  go_wp2
  go_ret
  exact ⟨rfl, rfl⟩

theorem info216 : (Yba.prog.info? 216).map (fun _ => 0) = some 0 := by kernel_rfl
theorem info204 : (Yba.prog.info? 204).map (fun _ => 0) = some 0 := by kernel_rfl
theorem neq192 (a : Addr) (w : World) : Sem.run Yba.prog (binOp BinOp.neq 192 (Value.pointer (some a)) (Value.pointer (some a))) w = .ok (.bool false) w := by
  obtain ⟨j, hj, _⟩ := Option.map_eq_some_iff.1 info216
  exact Lib.run_neq_ptr_same w a Yba.underlying192 hj
theorem neq149 (a : Addr) (w : World) : Sem.run Yba.prog (binOp BinOp.neq 149 (Value.pointer (some a)) (Value.pointer (some a))) w = .ok (.bool false) w := by
  obtain ⟨j, hj, _⟩ := Option.map_eq_some_iff.1 info204
  exact Lib.run_neq_ptr_same w a Yba.underlying149 hj
theorem eql149 (a : Addr) (w : World) : Sem.run Yba.prog (binOp BinOp.eql 149 (Value.pointer (some a)) (Value.pointer (some a))) w = .ok (.bool true) w := by
  obtain ⟨j, hj, _⟩ := Option.map_eq_some_iff.1 info204
  exact run_eql_ptr_same w a Yba.underlying149 hj

theorem info192 : (Yba.prog.info? 192).map (fun i => (i.zero, i.size, i.bytes)) = some (some (.pointer none), 1, 8) := by kernel_rfl

set_option maxHeartbeats 400000 in
set_option maxRecDepth 100000 in
theorem clone_some (g n cap : Nat) (xs : List Value) (w : World) (hx : xs.length = n * 1) (hn : 0 < n) (h4 : n ≤ 4) (hc : ∀ j u, xs[j]? = some u → w.cell? ((⟨g, 0, none⟩ : Addr).add j) = some u) (h1 : ∀ u ∈ xs, u.oneCell' = true) :
    Calls Yba.prog 7 #[.slice (some ⟨g, 0, none⟩) n cap] w fun e w' => ∃ g' cap', e = .returned (.slice (some ⟨g', 0, none⟩) n cap') ∧ w'.ownsRow w.heap.size 192 1 (.slice (some ⟨g', 0, none⟩) n cap') n xs ∧ Below w.heap.size w w' := by
  have hq' := fun (a : Option Addr) (n c n' c' : Nat) (w : World) => Lib.run_eql_slice_nil (P := Yba.prog) w 138 192 a n c n' c' Yba.underlying138
  obtain ⟨i, hi, hz⟩ := Option.map_eq_some_iff.1 info192
  simp only [Prod.mk.injEq] at hz
  obtain ⟨hz, hs, hb⟩ := hz
  have HI : Hid (Yba.prog.info? 192 = some i) := hi
  have HZ : Hid (i.zero = some (.pointer none)) := hz
  have HS : Hid (i.size = 1) := hs
  have HB : Hid (i.bytes = 8) := hb
  have HC : Hid (∀ j u, xs[j]? = some u → w.cell? ((⟨g, 0, none⟩ : Addr).add j) = some u) := hc
  have HX : Hid (xs.length = n * 1) := hx
  clear hi hz hs hb hc hx
  go_enter Yba.func7, Yba.ntmps7
  go_wp2_with (at_builtin; refine wpList_append_lies _ rfl (.tmp 5) (.tmp 6) 138 rfl w.heap.size 192 i (.pointer none) 1 8 Yba.underlying138 HI.out HZ.out HS.out HB.out rfl (by decide) (.slice (some ⟨w.heap.size, 0, none⟩) 0 0) 0 [] rfl ?c1 ⟨g, 0, none⟩ n cap xs rfl HX.out ?c2 h1 hn ?c3 ?c4 ?c5 _ rfl ?c6)
  case c1 => exact World.ownsRow_lit w #[] 0 (Nat.le_refl _) (by unfold maxLen; omega) rfl
  case c2 =>
    intro j u hu
    have h := HC.out j u hu
    rw [((Below.refl w.heap.size w).alloc (Nat.le_refl _) _).cell (World.block_lt_of_cell? w _ h)]
    exact h
  case c3 => unfold maxLen; omega
  case c4 => omega
  case c5 => simp
  case c6 =>
  intro g' cap' w1 hown hgrow hat hlt
  have hbel : Below w.heap.size w w1 := ((Below.refl _ _).alloc (Nat.le_refl _) _).grown hgrow (by simp) (fun k hk => by simp [Value.ownBlock] at hk; omega)
  have HO : Hid (w1.ownsRow w.heap.size 192 1 (.slice (some ⟨g', 0, none⟩) n cap') n xs) := hown
  clear hown hgrow hat
  go_wp2
  go_ret
  refine ⟨g', cap', by simp, ?_, hbel⟩
  exact HO.out

/-- two slices of no elements -/
theorem eq_none (a b : Option Addr) (ca cb : Nat) (w : World) :
    Calls Yba.prog 10 #[.slice a 0 ca, .slice b 0 cb] w fun e w' => e = .returned (.bool true) ∧ ∃ n, w' = w.drewN n := by
  go_enter Yba.func10, Yba.ntmps10
  go_wp2
  go_loop [13] (fun i => i = .int .i64 0) (fun i => 0)
  case atStart => rfl
  case round =>
    subst hrel
    go_wp2
    go_ret
    exact ⟨rfl, 0, rfl⟩

set_option maxHeartbeats 400000 in
theorem eq_some (ba oa bb ob len ca cb : Nat) (zs : Nat → Addr) (w : World) (hlen : len ≤ 9223372036854775807)
    (ha : ∀ i, i < len → w.cell? ⟨ba, oa + i, none⟩ = some (.pointer (some (zs i))))
    (hb : ∀ i, i < len → w.cell? ⟨bb, ob + i, none⟩ = some (.pointer (some (zs i)))) :
    Calls Yba.prog 10 #[.slice (some ⟨ba, oa, none⟩) len ca, .slice (some ⟨bb, ob, none⟩) len cb] w fun e w' => e = .returned (.bool true) ∧ ∃ n, w' = w.drewN n := by
  go_enter Yba.func10, Yba.ntmps10
  go_wp2
  go_loopw [13] (fun i wr => ∃ k n : Nat, k ≤ len ∧ i = .int .i64 k ∧ wr = w.drewN n) (fun i _ => len - (intOf i).toNat)
  case atStart => exact ⟨0, 0, Nat.zero_le _, rfl, rfl⟩
  case round =>
    obtain ⟨k, n, hk, rfl, rfl⟩ := hrel
    by_cases hlt : k < len
    · have h1 := ha k hlt
      have h2 := hb k hlt
      have hi : (k : Int) < (len : Int) := by omega
      have hne := neq192
      clear ha hb
      go_wp2
      go_quiet (fail)
      go_wp2
      go_roundw
      case rel => exact ⟨k + 1, n + nq, by omega, by go_num, rfl⟩
      case measure => simp [intOf]; omega
    · go_wp2
      go_ret
      exact ⟨rfl, n, rfl⟩

theorem step_call1 {P : Program} {ops : Array Oper} {o : Oper} {a : Act} {w : World} {K : Act → World → Prop} {Q : Exit → Act → World → Prop} {E : Prop} (hgd : o.guard = none) (f : FuncId) (x : Operand) (t : TypeId)
    (ho : o.op = .call { callee := .value (.func f), args := #[x], argTypes := #[t] }) (hin : ∀ args w, (callFunc f args).run P w = .ok (.enter f args) w)
    (h : Calls P f #[a.eval x] w fun e w' => ∃ v, e = .returned v ∧ K (a.put o.dst v) w') :
    if Region.wanted o (yielded ops a.tmps) = true then Oper.wp P o a w K Q else E := by
  have hw : Region.wanted o (yielded ops a.tmps) = true := by simp [Region.wanted, hgd]
  rw [if_pos hw]
  unfold Oper.wp
  have e : execOp a.eval o = callFunc f (#[] ++ #[x].map a.eval ++ #[]) := by
    obtain ⟨dst, op, type, pos, after, guard⟩ := o
    subst ho
    rfl
  have e' : #[] ++ #[x].map a.eval ++ #[] = #[a.eval x] := by simp
  rw [e'] at e
  rw [e, hin]
  exact h.mono fun e w' ⟨v, he, hk⟩ => by subst he; exact hk

theorem enter6 (args : Array Value) (w : World) : (callFunc 6 args).run Yba.prog w = .ok (.enter 6 args) w := by kernel_rfl

/-- what is known of the fixed blocks: s, c, f and other; 'v' is s.apart, 'x' f.apartIn, 'y' f.apartClass -/
structure Fx (N : Nat) (W : World) (v : Value) (x : Int) (y : Nat) : Prop where
  big : N + 4 ≤ W.heap.size
  ap : W.cell? ⟨N, 153, none⟩ = some v
  apf : W.frozen? ⟨N, 153, none⟩ = false
  ss : W.cell? ⟨N, 236, none⟩ = some (.int .u64 0)
  cf : W.cell? ⟨N + 1, 5, none⟩ = some (.pointer (some ⟨N + 1 + 1, 0, none⟩))
  fi : W.cell? ⟨N + 1 + 1, 24, none⟩ = some (.int .u64 x)
  fif : W.frozen? ⟨N + 1 + 1, 24, none⟩ = false
  fc : W.cell? ⟨N + 1 + 1, 26, none⟩ = some (.pointer (some ⟨y, 0, none⟩))
  fcf : W.frozen? ⟨N + 1 + 1, 26, none⟩ = false

theorem Fx.mono {N : Nat} {W W' : World} {v : Value} {x : Int} {y : Nat} (h : Fx N W v x y) (hb : Below (N + 4) W W') : Fx N W' v x y :=
  ⟨Nat.le_trans h.big hb.size, (hb.cell (by simp)).trans h.ap, (hb.frozen (by simp)).trans h.apf, (hb.cell (by simp)).trans h.ss, (hb.cell (by simp)).trans h.cf, (hb.cell (by simp)).trans h.fi, (hb.frozen (by simp)).trans h.fif, (hb.cell (by simp)).trans h.fc, (hb.frozen (by simp)).trans h.fcf⟩

theorem Fx.store {N : Nat} {W : World} {v : Value} {x : Int} {y : Nat} (h : Fx N W v x y) (v' : Value) : Fx N (W.setCell ⟨N, 153, none⟩ v') v' x y := by
  obtain ⟨h1, h2, h3, h4, h5, h6, h7, h8, h9⟩ := h
  constructor <;> go_simp

theorem Fx.start (w : World) (zS zC zF : Array Value) (s1 : zS[153]? = some (.slice none 0 0)) (s2 : zS[236]? = some (.int .u64 0)) (c2 : 5 < zC.size) (f1 : zF[24]? = some (.int .u64 0)) (f3 : 26 < zF.size) :
    Fx w.heap.size ((((w.alloc (.cells zS 189)).alloc (.cells (zC.setIfInBounds 5 (.pointer (some ⟨w.heap.size + 1 + 1, 0, none⟩))) 204)).alloc (.cells (zF.setIfInBounds 26 (.pointer (some ⟨w.heap.size + 1 + 1 + 1, 0, none⟩))) 216)).alloc (.cells zC 204)) (.slice none 0 0) 0 (w.heap.size + 1 + 1 + 1) := by
  constructor <;> go_simp

/-- all of a list's values are pointers that are not nil -/
def Ptrs (xs : List Value) : Prop := ∀ u ∈ xs, ∃ a, u = .pointer (some a)
theorem Ptrs.one {xs : List Value} (h : Ptrs xs) : ∀ u ∈ xs, u.oneCell' = true := fun u hu => by obtain ⟨a, rfl⟩ := h u hu; rfl
theorem Ptrs.snoc {xs : List Value} (h : Ptrs xs) (a : Addr) : Ptrs (xs ++ [.pointer (some a)]) := fun u hu => by
  rcases List.mem_append.1 hu with h1 | h1
  · exact h u h1
  · exact ⟨a, by simpa using h1⟩

theorem keeps {N : Nat} {W w1 : World} {v : Value} {k : Nat} {xs : List Value} (hown : W.ownsRow (N + 4) 192 1 v k xs) (hbig : N + 4 ≤ W.heap.size) (hg : W.grownBy w1 v.ownBlock) : Below (N + 4) W w1 :=
  (Below.refl _ _).grown hg hbig fun j hj => (hown.lt j hj).1

theorem news2 (w : World) (o : Obj) (x : Value) (t : TypeId) : ∀ j u, [x][j]? = some u → ((w.alloc o).alloc (.cells #[x] t)).drew.cell? ((⟨w.heap.size + 1, 0, none⟩ : Addr).add j) = some u := by
  intro j u hu
  have h := cell_one_new (w.alloc o) x t j u hu
  have e : (w.alloc o).heap.size = w.heap.size + 1 := by simp
  rw [e] at h
  exact h

theorem far2 {N : Nat} {w wn : World} {v : Value} {k : Nat} {xs : List Value} {x : Int} {y : Nat} (o o' : Obj) (hfx : Fx N w v x y) (hown : w.ownsRow (N + 4) 192 1 v k xs) (hg : ((w.alloc o).alloc o').drew.grownBy wn v.ownBlock) : Below (N + 4) w wn := by
  have hb : Below (N + 4) w ((w.alloc o).alloc o').drew := (((Below.refl _ _).alloc hfx.big _).alloc (by have := hfx.big; simp; omega) _).drew
  refine hb.grown hg (Nat.le_trans hfx.big hb.size) fun j hj => (hown.lt j hj).1

theorem news1 {W : World} {H : Nat} (x : Value) (t : TypeId) (hH : W.heap.size = H) : ∀ j u, [x][j]? = some u → (W.alloc (.cells #[x] t)).cell? ((⟨H, 0, none⟩ : Addr).add j) = some u := by
  subst hH
  exact cell_one_new W x t

theorem ownsRow_drewN {w : World} {base : Nat} {e : TypeId} {size : Nat} {v : Value} {n : Nat} {xs : List Value} (h : w.ownsRow base e size v n xs) (m : Nat) : (w.drewN m).ownsRow base e size v n xs := h

/-- tellApartFor where found is marked already -/
theorem tell_same (N : Nat) (w : World) (v : Value) (y : Nat) (h : Fx N w v 0 y) :
    Calls Yba.prog 9 #[.pointer (some ⟨N, 0, none⟩), .pointer (some ⟨N + 1, 0, none⟩)] w fun e w' => e = .returned (.tuple #[]) ∧ ∃ n, w' = w.drewN n := by
  obtain ⟨h1, h2, h3, h4, h5, h6, h7, h8, h9⟩ := h
  go_enter Yba.func9, Yba.ntmps9
  go_wp2
  go_quiet ((go_at_call 8; exact Calls.quiet_of_same (session_any _ _ h4)))
  go_wp2
  go_end0
  exact ⟨rfl, nq, rfl⟩

theorem Fx.mark {N : Nat} {W : World} {v : Value} {x : Int} {y : Nat} (h : Fx N W v x y) (x' : Int) (y' : Nat) : Fx N ((W.setCell ⟨N + 1 + 1, 24, none⟩ (.int .u64 x')).setCell ⟨N + 1 + 1, 26, none⟩ (.pointer (some ⟨y', 0, none⟩))) v x' y' := by
  obtain ⟨h1, h2, h3, h4, h5, h6, h7, h8, h9⟩ := h
  constructor <;> go_simp

theorem Fx.drewN {N : Nat} {W : World} {v : Value} {x : Int} {y : Nat} (h : Fx N W v x y) (n : Nat) : Fx N (W.drewN n) v x y := ⟨h.1, h.2, h.3, h.4, h.5, h.6, h.7, h.8, h.9⟩

set_option maxHeartbeats 1000000 in
set_option maxRecDepth 100000 in
/-- tellApartFor where found is not marked yet -/
theorem tell_new (N : Nat) (w : World) (v : Value) (x : Int) (y k : Nat) (xs : List Value) (h : Fx N w v x y) (hx : (x == 0) = false) (hown : w.ownsRow (N + 4) 192 1 v k xs) (hk : k ≤ 4) :
    Calls Yba.prog 9 #[.pointer (some ⟨N, 0, none⟩), .pointer (some ⟨N + 1, 0, none⟩)] w fun e w' => e = .returned (.tuple #[]) ∧
      ∃ g cap, Fx N w' (.slice (some ⟨g, 0, none⟩) (k + 1) cap) 0 (N + 1) ∧ w'.ownsRow (N + 4) 192 1 (.slice (some ⟨g, 0, none⟩) (k + 1) cap) (k + 1) (xs ++ [.pointer (some ⟨N + 1 + 1, 0, none⟩)]) ∧ Below N w w' ∧ ∀ b, N + 4 ≤ b → b < w.heap.size → some b ≠ v.ownBlock → w'.heap[b]? = w.heap[b]? := by
  obtain ⟨i, hi, hz⟩ := Option.map_eq_some_iff.1 info192
  simp only [Prod.mk.injEq] at hz
  obtain ⟨hz, hs, hb⟩ := hz
  have HI : Hid (Yba.prog.info? 192 = some i ∧ i.zero = some (.pointer none) ∧ i.size = 1 ∧ i.bytes = 8) := ⟨hi, hz, hs, hb⟩
  clear hi hz hs hb
  have HF : Hid (Fx N w v x y) := h
  have HO : Hid (w.ownsRow (N + 4) 192 1 v k xs) := hown
  clear hown
  obtain ⟨h1, h2, h3, h4, h5, h6, h7, h8, h9⟩ := h
  go_enter Yba.func9, Yba.ntmps9
  go_wp2
  go_quiet ((go_at_call 8; exact Calls.quiet_of_same (session_any _ _ h4)))
  go_wp2_with (at_builtin; refine wpList_append_lies _ rfl (.tmp 30) (.tmp 32) 138 rfl (N + 4) 192 i (.pointer none) 1 8 Yba.underlying138 HI.out.1 HI.out.2.1 HI.out.2.2.1 HI.out.2.2.2 rfl (by decide) v k xs rfl ?c1 ⟨w.heap.size, 0, none⟩ 1 1 [.pointer (some ⟨N + 1 + 1, 0, none⟩)] rfl rfl ?c2 ?c3 (by decide) ?c4 ?c5 ?c6 _ rfl ?c7)
  case c1 => exact (ownsRow_setCell_below (ownsRow_setCell_below (ownsRow_drewN HO.out nq) (by simp) _) (by simp) _).alloc _
  case c2 => exact news1 _ _ (by simp)
  case c3 => exact (Ptrs.one (Ptrs.snoc (xs := []) (fun _ h => by cases h) _))
  case c4 => unfold maxLen; omega
  case c5 => omega
  case c6 => simp; omega
  case c7 =>
  intro g cap wn hown hgrow hat hlt
  have hfm : Fx N (((w.drewN nq).setCell ⟨N + 1 + 1, 24, none⟩ (.int .u64 0)).setCell ⟨N + 1 + 1, 26, none⟩ (.pointer (some ⟨N + 1, 0, none⟩))) v 0 (N + 1) := (HF.out.drewN nq).mark 0 (N + 1)
  have hbm : Below (N + 4) (((w.drewN nq).setCell ⟨N + 1 + 1, 24, none⟩ (.int .u64 0)).setCell ⟨N + 1 + 1, 26, none⟩ (.pointer (some ⟨N + 1, 0, none⟩))) wn := ((Below.refl _ _).alloc hfm.big _).grown hgrow (by simp; omega) fun j hj => (HO.out.lt j hj).1
  have hfn := hfm.mono hbm
  have hkept : ∀ b, N + 4 ≤ b → b < w.heap.size → some b ≠ v.ownBlock → wn.heap[b]? = w.heap[b]? := by
    intro b hb1 hb2 hb3
    rw [hgrow.block b (by simp; omega) hb3, Below.heap_alloc _ _ _ (by simpa using hb2), Below.heap_setCell _ _ _ _ (by simp; omega), Below.heap_setCell _ _ _ _ (by simp; omega)]
    rfl
  have hbel : Below N w wn := (((below_drewN (Below.refl _ _) nq).setCell (by simp; omega) _).setCell (by simp; omega) _).trans (hbm.mono (by simp))
  have k1 := hfn.ap
  have k2 := hfn.apf
  have HO2 : Hid (wn.ownsRow (N + 4) 192 1 (.slice (some ⟨g, 0, none⟩) (k + 1) cap) (k + 1) (xs ++ [.pointer (some ⟨N + 1 + 1, 0, none⟩)])) := hown
  have HF2 : Hid (Fx N wn v 0 (N + 1)) := hfn
  have HK : Hid (∀ b, N + 4 ≤ b → b < w.heap.size → some b ≠ v.ownBlock → wn.heap[b]? = w.heap[b]?) := hkept
  clear hown hgrow hat hfm hbm hfn hkept h2 h3 h5 h6 h7 h8 h9
  go_wp2
  go_end0
  refine ⟨rfl, g, cap, HF2.out.store _, ownsRow_setCell_below HO2.out (by simp) _, hbel.setCell (by simp) _, fun b hb1 hb2 hb3 => ?_⟩
  rw [Below.heap_setCell _ _ _ _ (by simp; omega)]
  exact HK.out b hb1 hb2 hb3

theorem Fx.mark1 {N : Nat} {W : World} {v : Value} {x : Int} {y : Nat} (h : Fx N W v x y) (x' : Int) : Fx N (W.setCell ⟨N + 1 + 1, 24, none⟩ (.int .u64 x')) v x' y := by
  obtain ⟨h1, h2, h3, h4, h5, h6, h7, h8, h9⟩ := h
  constructor <;> go_simp

/-- a row that is owned, as its cells -/
theorem own_cells {W : World} {base k g cap : Nat} {xs : List Value} (h : W.ownsRow base 192 1 (.slice (some ⟨g, 0, none⟩) k cap) k xs) (hp : Ptrs xs) :
    ∃ zs : Nat → Addr, (∀ i, i < k → xs[i]? = some (.pointer (some (zs i)))) ∧ ∀ i, i < k → W.cell? ⟨g, 0 + i, none⟩ = some (.pointer (some (zs i))) := by
  have hl : xs.length = k := by have := h.1; omega
  have hx : ∀ i, ∃ a : Addr, i < k → xs[i]? = some (.pointer (some a)) := by
    intro i
    by_cases hi : i < k
    · obtain ⟨a, ha⟩ := hp xs[i] (List.getElem_mem _)
      exact ⟨a, fun _ => by rw [List.getElem?_eq_getElem (by omega), ha]⟩
    · exact ⟨⟨0, 0, none⟩, fun h => absurd h hi⟩
  refine ⟨fun i => Classical.choose (hx i), fun i hi => Classical.choose_spec (hx i) hi, fun i hi => ?_⟩
  rw [Nat.zero_add, h.cellAt i (by omega)]
  exact Classical.choose_spec (hx i) hi

theorem own_blocks {w w' : World} {base : Nat} {e : TypeId} {size : Nat} {v : Value} {n : Nat} {xs : List Value} (h : w.ownsRow base e size v n xs) (hb : ∀ b, v.ownBlock = some b → w'.heap[b]? = w.heap[b]?) : w'.ownsRow base e size v n xs := by
  obtain ⟨h1, h2⟩ := h
  refine ⟨h1, ?_⟩
  rcases h2 with h2 | ⟨g, cap, cur, rfl, h3, h4, h5⟩
  · exact .inl h2
  · exact .inr ⟨g, cap, cur, rfl, h3, (hb g rfl).trans h4, h5⟩

theorem eq_own {W : World} {b1 b2 k : Nat} {V U : Value} {xs : List Value} (h1 : W.ownsRow b1 192 1 V k xs) (h2 : W.ownsRow b2 192 1 U k xs) (hp : Ptrs xs) (hk : k ≤ 4) :
    Calls Yba.prog 10 #[V, U] W fun e w' => e = .returned (.bool true) ∧ ∃ n, w' = W.drewN n := by
  by_cases h0 : k = 0
  · subst h0
    have e1 : ∃ a c, V = .slice a 0 c := by
      rcases h1.2 with ⟨e, _⟩ | ⟨g, cap, cur, e, _⟩
      · exact ⟨_, _, e⟩
      · exact ⟨_, _, e⟩
    have e2 : ∃ a c, U = .slice a 0 c := by
      rcases h2.2 with ⟨e, _⟩ | ⟨g, cap, cur, e, _⟩
      · exact ⟨_, _, e⟩
      · exact ⟨_, _, e⟩
    obtain ⟨a, c, rfl⟩ := e1
    obtain ⟨a', c', rfl⟩ := e2
    exact eq_none _ _ _ _ _
  · obtain ⟨g, cap, rfl, _⟩ := h1.form (by omega)
    obtain ⟨g', cap', rfl, _⟩ := h2.form (by omega)
    obtain ⟨zs, hz, hc⟩ := own_cells h1 hp
    obtain ⟨zs', hz', hc'⟩ := own_cells h2 hp
    refine eq_some _ _ _ _ k _ _ zs W (by omega) hc fun i hi => ?_
    rw [hc' i hi, ← hz' i hi, hz i hi]

theorem clone_own {W : World} {b k : Nat} {v : Value} {xs : List Value} (h : W.ownsRow b 192 1 v k xs) (hp : Ptrs xs) (hk : k ≤ 4) (h0 : k = 0 → v = .slice none 0 0) :
    Calls Yba.prog 7 #[v] W fun e w' => ∃ u, e = .returned u ∧ w'.ownsRow W.heap.size 192 1 u k xs ∧ Below W.heap.size W w' := by
  by_cases hk0 : k = 0
  · subst hk0
    obtain rfl := h0 rfl
    obtain rfl : xs = [] := List.eq_nil_of_length_eq_zero (by simpa using h.1)
    refine (clone_nil W).mono ?_
    rintro e w' ⟨rfl, rfl⟩
    exact ⟨_, rfl, World.ownsRow_nil _ _ _ _, Below.refl _ _⟩
  · obtain ⟨g, cap, rfl, _, _⟩ := h.form (by omega)
    refine (clone_some g k cap xs W h.1 (by omega) hk (h.cells rfl) hp.one).mono ?_
    rintro e w' ⟨g', cap', rfl, ho, hb⟩
    exact ⟨_, rfl, ho, hb⟩

set_option maxHeartbeats 1000000 in
set_option maxRecDepth 100000 in
theorem walk (a0 : Bool) (a1 : Int) (a2 : Int) (w1 : (Lit.int .u64 a1).wf = true) (w2 : 0 ≤ a2) (w3 : a2 ≤ 255) (w : World) :
    Calls Yba.prog 4 #[.bool a0, .int .u64 a1, .int .u8 a2] w fun e w' => e = .returned (.bool true) ∧ Below w.heap.size w w' := by
  obtain ⟨zS, bS, s1, s2, s3⟩ := zero189
  obtain ⟨zC, bC, c1, c2⟩ := zero204
  go_enter Yba.func4, Yba.ntmps4
  go_wp2_with (first | refine wpList_build0 _ rfl 189 rfl _ (bS _) ?_ | refine wpList_build0 _ rfl 204 rfl _ (bC _) ?_)
  refine (new_any _ _).mono ?_
  rintro e w' ⟨rfl, zF, rfl, f1, f2, f3⟩
  have f4 : 24 < zF.size := by omega
  have s4 : 153 < zS.size := by omega
  go_wp2_with (first | refine wpList_build0 _ rfl 189 rfl _ (bS _) ?_ | refine wpList_build0 _ rfl 204 rfl _ (bC _) ?_)
  go_loopw [12] (fun i wr => ∃ (k : Nat) (v : Value) (xs : List Value), (k : Int) ≤ a2 % 4 ∧ i = .int .i64 k ∧ Fx w.heap.size wr v 0 (w.heap.size + 1 + 1 + 1) ∧ wr.ownsRow (w.heap.size + 4) 192 1 v k xs ∧ Ptrs xs ∧ Below w.heap.size w wr ∧ (k = 0 → v = .slice none 0 0)) (fun i _ => ((a2 % 4) - (intOf i)).toNat)
  case atStart =>
    refine ⟨0, .slice none 0 0, [], by omega, rfl, ?_, World.ownsRow_nil _ _ _ _, fun u hu => (by cases hu), ?_, fun _ => rfl⟩
    · exact Fx.start w zS zC zF s1 s2 c2 f1 f3
    · exact by repeat (first | exact Below.refl _ _ | refine Below.alloc ?_ (by first | omega | (simp <;> omega)) _)
  case round =>
    obtain ⟨k, v, xs, hk, rfl, hfx, hown, hptr, hbel, hnil⟩ := hrel
    clear bS bC s1 s2 s3 s4 c1 f1 f2 f3 f4
    by_cases hlt : (k : Int) < a2 % 4
    · obtain ⟨i, hi, hz⟩ := Option.map_eq_some_iff.1 info192
      simp only [Prod.mk.injEq] at hz
      obtain ⟨hz, hs, hb⟩ := hz
      have HI : Hid (Yba.prog.info? 192 = some i ∧ i.zero = some (.pointer none) ∧ i.size = 1 ∧ i.bytes = 8) := ⟨hi, hz, hs, hb⟩
      clear hi hz hs hb
      have HF : Hid (Fx w.heap.size wr v 0 (w.heap.size + 1 + 1 + 1)) := hfx
      have HO : Hid (wr.ownsRow (w.heap.size + 4) 192 1 v k xs) := hown
      have HB : Hid (Below w.heap.size w wr) := hbel
      have h1 := hfx.ap
      have h2 := hfx.cf
      have h3 := hfx.apf
      have h4 := hfx.big
      have h5 : ∀ o, (wr.alloc o).cell? ⟨w.heap.size, 153, none⟩ = some v := fun o => (((Below.refl _ _).alloc h4 o).cell (by simp)).trans h1
      have h6 : ∀ o o', ((wr.alloc o).alloc o').cell? ⟨w.heap.size, 153, none⟩ = some v := fun o o' => ((((Below.refl _ _).alloc h4 o).alloc (by simp; omega) o').cell (by simp)).trans h1
      clear hfx hown hbel hnil
      go_wp2
      go_region_law (first | (refine step_call1 rfl 6 (.tmp 54) 192 rfl enter6 ((new_any _ _).mono ?_); rintro e w' ⟨rfl, zF, rfl, f1, f2, f3⟩; refine ⟨_, rfl, ?_⟩) | (refine step_append_lies _ rfl (.tmp 50) (.tmp 56) 138 rfl (w.heap.size + 4) 192 i (.pointer none) 1 8 Yba.underlying138 HI.out.1 HI.out.2.1 HI.out.2.2.1 HI.out.2.2.2 rfl (by decide) v k xs rfl ?_ ⟨wr.heap.size + 1, 0, none⟩ 1 1 [.pointer (some ⟨wr.heap.size, 0, none⟩)] rfl rfl ?_ ?_ (by decide) ?_ ?_ ?_ _ rfl ?_; exact ((HO.out.alloc _).alloc _); exact news2 _ _ _ _; exact (Ptrs.one (Ptrs.snoc (xs := []) (fun _ h => by cases h) _)); (unfold maxLen; omega); omega; exact Nat.le_trans h4 (by simp; omega); intro g cap wn hown hgrow hat hlt; have hbn := far2 _ _ HF.out HO.out hgrow; have k1 := (hbn.cell (p := ⟨w.heap.size, 153, none⟩) (by simp)).trans h1; have k2 := (hbn.cell (p := ⟨w.heap.size + 1, 5, none⟩) (by simp)).trans h2; have k3 := (hbn.frozen (p := ⟨w.heap.size, 153, none⟩) (by simp)).trans h3))
      all_goals
        have HOn : Hid (wn.ownsRow (w.heap.size + 4) 192 1 (.slice (some ⟨g, 0, none⟩) (k + 1) cap) (k + 1) (xs ++ [.pointer (some ⟨wr.heap.size, 0, none⟩)])) := hown
        have HBn : Hid (Below (w.heap.size + 4) wr wn) := hbn
        clear hown hgrow hat hlt hbn k1 k2 k3 h1 h2 h3 h5 h6 f1 f2 f3
        go_wp2
        go_roundw
        case rel =>
          refine ⟨k + 1, _, _, by omega, by go_num, (HF.out.mono HBn.out).store _, ownsRow_setCell_below HOn.out (by simp) _, hptr.snoc _, ?_, fun h => absurd h (by omega)⟩
          exact (HB.out.trans (HBn.out.mono (by simp))).setCell (by simp) _
        case measure => simp [intOf]; omega
    · have hn : a2 % 4 = k := by omega
      have HF : Hid (Fx w.heap.size wr v 0 (w.heap.size + 1 + 1 + 1)) := hfx
      have HO : Hid (wr.ownsRow (w.heap.size + 4) 192 1 v k xs) := hown
      have HB : Hid (Below w.heap.size w wr) := hbel
      have HN : Hid (k = 0 → v = .slice none 0 0) := hnil
      have h1 := hfx.ap
      have h4 := hfx.big
      have hk4 : k ≤ 4 := by omega
      clear hfx hown hbel hnil
      go_wp2_with fail
      refine (clone_own HO.out hptr hk4 HN.out).mono ?_
      rintro e wc ⟨u, rfl, hou, hbc⟩
      have HFc : Hid (Fx w.heap.size wc v 0 (w.heap.size + 1 + 1 + 1)) := HF.out.mono (hbc.mono h4)
      have HOc : Hid (wc.ownsRow (w.heap.size + 4) 192 1 v k xs) := own_blocks HO.out fun b hb => hbc.block b (HO.out.lt b hb).2
      have HU : Hid (wc.ownsRow wr.heap.size 192 1 u k xs) := hou
      have HBc : Hid (Below w.heap.size w wc) := HB.out.trans (hbc.mono (by omega))
      clear h1 hou hbc
      go_wp2_with fail
      refine (session_any _ _ HFc.out.ss).mono ?_
      rintro e wd ⟨rfl, rfl⟩
      have h1 := HFc.out.fi
      have h2 := HFc.out.fif
      have h3 : w.heap.size < wd.heap.size := by have := HFc.out.big; omega
      cases a0
      · by_cases hz : a1 = 0
        · subst hz
          have HFm : Hid (Fx w.heap.size (wd.setCell ⟨w.heap.size + 1 + 1, 24, none⟩ (.int .u64 0)) v 0 (w.heap.size + 1 + 1 + 1)) := HFc.out.mark1 0
          go_wp2_with fail
          refine (tell_same _ _ _ _ HFm.out).mono ?_
          rintro e w' ⟨rfl, nd, rfl⟩
          have m1 := HFm.out.ap
          have m2 := HFm.out.cf
          have m3 := HFm.out.fi
          have m4 := HFm.out.fc
          have n1 := neq192
          have n2 := eql149
          go_wp2_with (go_at_call 10; refine (eq_own (b1 := w.heap.size + 4) (b2 := wr.heap.size) (ownsRow_drewN (ownsRow_setCell_below HOc.out (by simp) _) nd) (ownsRow_drewN (ownsRow_setCell_below HU.out (by simp; omega) _) nd) hptr hk4).mono ?_; rintro e w' ⟨rfl, nd2, rfl⟩)
          go_ret
          exact ⟨rfl, below_drewN (HBc.out.setCell (by simp; omega) _) _⟩
        · skip
          have HFm : Hid (Fx w.heap.size (wd.setCell ⟨w.heap.size + 1 + 1, 24, none⟩ (.int .u64 a1)) v a1 (w.heap.size + 1 + 1 + 1)) := HFc.out.mark1 a1
          have hz' : (a1 == 0) = false := by simpa using hz
          go_wp2_with fail
          refine (tell_new _ _ _ _ _ _ _ HFm.out hz' (ownsRow_setCell_below HOc.out (by simp) _) hk4).mono ?_
          rintro e we ⟨rfl, g, cap, hfe, hoe, hbe, hke⟩
          have HUe : Hid (we.ownsRow wr.heap.size 192 1 u k xs) := own_blocks HU.out fun b hb => by
            have hlt := HU.out.lt b hb
            rw [hke b (by omega) (by simpa using hlt.2) (fun e => by have := HO.out.lt b e.symm; omega), Below.heap_setCell _ _ _ _ (by simp; omega)]
          have HOe : Hid (we.ownsRow (w.heap.size + 4) 192 1 (.slice (some ⟨g, 0, none⟩) (k + 1) cap) (k + 1) (xs ++ [.pointer (some ⟨w.heap.size + 1 + 1, 0, none⟩)])) := hoe
          have HBe : Hid (Below w.heap.size w we) := (HBc.out.setCell (by simp; omega) _).trans hbe
          have hcell : we.cell? ⟨g, k, none⟩ = some (.pointer (some ⟨w.heap.size + 1 + 1, 0, none⟩)) := by
            have hl : xs.length = k := by have := HU.out.1; omega
            rw [hoe.cellAt k (by omega), List.getElem?_append_right (by omega), hl]
            simp
          have hcap : k ≤ cap := by
            rcases hoe.2 with ⟨h0, _⟩ | ⟨g', cap', cur, hv, _, _, hn', _⟩
            · cases h0
            · cases hv; omega
          have m1 := hfe.ap
          have m2 := hfe.cf
          have m3 := hfe.fi
          have m4 := hfe.fc
          have n1 := neq192
          have n2 := neq149
          clear hfe hoe hbe hke
          go_wp2_with (go_at_call 10; refine (eq_own (b1 := w.heap.size + 4) (b2 := wr.heap.size) (ownsRow_pop (by have := HU.out.1; exact this) HOe.out) HUe.out hptr hk4).mono ?_; rintro e w' ⟨rfl, nd2, rfl⟩)
          go_ret
          exact ⟨rfl, below_drewN HBe.out _⟩
      · skip
        have HFm : Hid (Fx w.heap.size (wd.setCell ⟨w.heap.size + 1 + 1, 24, none⟩ (.int .u64 0)) v 0 (w.heap.size + 1 + 1 + 1)) := HFc.out.mark1 0
        go_wp2_with fail
        refine (tell_same _ _ _ _ HFm.out).mono ?_
        rintro e w' ⟨rfl, nd, rfl⟩
        have m1 := HFm.out.ap
        have m2 := HFm.out.cf
        have m3 := HFm.out.fi
        have m4 := HFm.out.fc
        have n1 := neq192
        have n2 := eql149
        go_wp2_with (go_at_call 10; refine (eq_own (b1 := w.heap.size + 4) (b2 := wr.heap.size) (ownsRow_drewN (ownsRow_setCell_below HOc.out (by simp) _) nd) (ownsRow_drewN (ownsRow_setCell_below HU.out (by simp; omega) _) nd) hptr hk4).mono ?_; rintro e w' ⟨rfl, nd2, rfl⟩)
        go_ret
        exact ⟨rfl, below_drewN (HBc.out.setCell (by simp; omega) _) _⟩

/-! ### THE ROW's STEP: WRITTEN OUT: LEAVE IT -/
set_option maxRecDepth 100000 in
theorem lifted (os : Os) (started : os.Started) (H : Type) (enc : TypeId × Value → H) :
    ReturnsInHanded {} Yba.checked os 4 .any (Rows.lawS194031BWholeSpec.pre6 enc Yba.prog Yba.f4 Rows.lawS194031BWholeRow.domain false) (Rows.lawS194031BWholeSpec.post enc Yba.prog Yba.f4 false true false false) := by
  refine returnsInHanded_of_change (C := Yba.checked) own started (by kernel_rfl) Yba.func4
    (ChangeSpec.witness6 (enc := enc) (C := Yba.checked) false ⟨#[], #[.bool false, .int .u64 0, .int .u8 0], []⟩ 8 (by kernel_rfl) (by kernel_rfl) (by kernel_rfl) (by kernel_rfl)) ?_
  intro W base args ds gs before hval0 hW hcnd _
  have hval : ∀ (j : Nat) t v, Yba.f4.params[j]? = some t → args[j]? = some v → Value.okWide Yba.prog W .any base t v := hval0
  have hW' := hW
  obtain ⟨p, q, hA0, hV, rfl, hfz, hnd⟩ := hW
  have hA : DataW.TrodAll enc Yba.prog W 0 (fun _ => true) true Yba.f4.params.toList args.toList ds p := hA0
  rw [Yba.params4] at hA hval
  obtain ⟨v0, vs0, d0, ds0, p0, q0, hargs, rfl, rfl, h0, r0⟩ := trodAll_cons hA
  obtain ⟨v1, vs1, d1, ds1, p1, q1, rfl, rfl, rfl, h1, r1⟩ := trodAll_cons r0
  obtain ⟨v2, vs2, d2, ds2, p2, q2, rfl, rfl, rfl, h2, r2⟩ := trodAll_cons r1
  obtain ⟨rfl, rfl, rfl⟩ := trodAll_nil r2
  obtain rfl : args = #[v0, v1, v2] := by cases args; simp_all
  obtain ⟨rfl, rfl⟩ := trodVars_none hV
  obtain ⟨a0, rfl, rfl, rfl⟩ := open_bool Yba.underlying4 (hval 0 4 v0 rfl rfl) h0
  obtain ⟨a1, rfl, rfl, rfl, w1⟩ := open_int Yba.underlying39 (hval 1 39 v1 rfl rfl) h1
  obtain ⟨a2, rfl, rfl, rfl, w2⟩ := open_int Yba.underlying5 (hval 2 5 v2 rfl rfl) h2
  clear hA0 hval0
  simp only [List.append_nil] at hW'
  obtain ⟨b1, b2⟩ : 0 ≤ a2 ∧ a2 ≤ 255 := bounds_u8 w2
  refine (walk a0 a1 a2 w1 b1 b2 W).mono fun e W' ⟨he, bel⟩ => ?_
  subst he
  exact ⟨_, rfl, _, _, _, [], _, [], hW', trodAll_mk1 (shut_bool Yba.underlying4 _), (trodAll_cons_mk (shut_bool Yba.underlying4 _) (trodAll_cons_mk (shut_int Yba.underlying39 w1) (trodAll_cons_mk (shut_int Yba.underlying5 w2) trodAll_mk0))), rfl, bel.frame _, fun h => by cases h⟩

theorem over : Rows.lawS194031BWholeRow.holds Yba.pinned (OpenSpec.ofChange Rows.lawS194031BWholeSpec) :=
  OpenClaim.holds_of_wide 4 Yba.f4 rfl rfl rfl rfl rfl rfl rfl ⟨rfl, rfl, rfl, rfl, rfl⟩ rfl rfl rfl rfl rfl (by kernel_rfl) Yba.func4 (by kernel_rfl)
    (of_decide_eq_true (by kernel_rfl)) (by unfold Func.isWrapper; first | (rw [if_pos (by decide +kernel)]; kernel_rfl) | (rw [if_neg (by decide +kernel)]; exact ⟨rfl, rfl⟩))
    (fun os started H enc _ => lifted os started H enc)

/-- ████ THE STATEMENT ████ -/
theorem proved : Rows.LawS194031BWholeSaid :=
  over
end Go.Proofs.Ybulkexnjg.lawS194031BWhole
