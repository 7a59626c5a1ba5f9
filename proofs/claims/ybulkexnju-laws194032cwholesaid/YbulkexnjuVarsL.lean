/-
  watchedVars: a block's kids are laid on the stack.
-/
import Derived.Test.YbulkexnjuVarsK
import Derived.Deep.RegionLaw
namespace Go.Proofs.Ybulkexnju.W
open Go.RowKit Go.Proofs.Ybulkexnju.G
set_option linter.unusedVariables false
set_option maxRecDepth 100000

theorem slice_mid2 (g lo hi T : Nat) (h1 : lo ≤ hi) (h2 : hi ≤ T) : ∃ (ad : Addr) (m : Nat), (∀ W : World, (Instr.slice 57 (.slice (some ⟨g, 0, none⟩) T T) (some (.int .i32 (lo : Int))) (some (.int .i32 (hi : Int))) none).run Yba.prog W = .ok (.slice (some ad) (hi - lo) m) W) ∧ (lo < hi → ad = ⟨g, lo, none⟩) := by
  have i1 : (lo : Int) ≤ (hi : Int) := by omega
  have i2 : (hi : Int) ≤ (T : Int) := by omega
  by_cases e : T = lo
  · refine ⟨⟨g, 0, none⟩, T - lo, fun W => ?_, fun h => by omega⟩
    subst e
    go_simp
  · refine ⟨⟨g, lo, none⟩, T - lo, fun W => ?_, fun _ => rfl⟩
    go_simp

/-- append as one step of a region that draws, its run being known -/
theorem step_append_run {P : Program} {ops : Array Oper} {o : Oper} {a : Act} {w : World} {K : Act → World → Prop} {Q : Exit → Act → World → Prop} {E : Prop}
    (hg : o.guard = none) (s x : Operand) (t : TypeId) (hop : o.op = Op.call { callee := Callee.builtin Builtin.append, args := #[s, x], argTypes := #[t, t] })
    (v u r : Value) (W' : World) (hs : a.eval s = v) (hx : a.eval x = u) (hrun : (Builtin.append_ #[t, t] o.type #[v, u]).run P w = .ok r W') (hK : K (a.put o.dst r) W') :
    if Region.wanted o (yielded ops a.tmps) = true then Oper.wp P o a w K Q else E := by
  have hw : Region.wanted o (yielded ops a.tmps) = true := by simp [Region.wanted, hg]
  rw [if_pos hw]
  unfold Oper.wp
  simp [execOp, hop, resolve, invoke, builtin, hs, hx, hrun, Result.andThen]
  exact hK

set_option maxHeartbeats 32000000 in
theorem walk_push {c : WC} (hc : c.Ok) {Q : Exit → Act → World → Prop} {k : Nat} {t : List Int} {vis : Nat → Bool} (hT : TInv c.K (EN c.sc c.ord c.K) c.I vis ((k : Int) :: t)) (hnext : ∀ a W n, n < 2 * cb (fun k => !vis k) c.K + (opens t).length → RelW c n a W → Q .normal a W) :
    ∀ a W, RelF c k t vis a W → (right 4 B7).wp Yba.prog Q a W := by
  rintro a W ⟨x, v37, rfl, hkw⟩
  have hkK : k < c.K := (hT.pend k List.mem_cons_self).1
  have hkb := hc.tr.kb
  have htl := TInv.rest hT
  obtain ⟨hle1, hle2, hle3, hf1, hf2⟩ := hc.tr.kidsLe hkK
  have hTV := hc.tr.visit hT
  have hkids : ∀ i, ps (keyI c.I) c.K k ≤ i → i < ps (keyI c.I) c.K (k + 1) → 0 ≤ c.at_ i := by
    intro i h1 h2
    obtain ⟨j, j1, j2, j3, j4⟩ := hc.tr.grp.mem h1 h2
    omega
  obtain ⟨lo, elo⟩ : ∃ lo, lo = ps (keyI c.I) c.K k := ⟨_, rfl⟩
  obtain ⟨hi, ehi⟩ : ∃ hi, hi = ps (keyI c.I) c.K (k + 1) := ⟨_, rfl⟩
  rw [← elo, ← ehi] at hTV hle1 hkids
  have KIDS : Aside (∀ i, lo ≤ i → i < hi → 0 ≤ c.at_ i) := hkids
  clear hkids
  rw [← ehi] at hle2 hf2
  rw [← elo] at hf1
  have hlen := hTV.len
  have hlen2 : (hi - lo) + (t.length + 1) ≤ c.K := by
    simpa [kids_len] using hlen
  have hki : (k : Int) < (c.K : Int) := by omega
  have hki1 : (k : Int) < (c.K : Int) + 1 := by omega
  have hki2 : (k : Int) + 1 < (c.K : Int) + 1 := by omega
  have hxor : bits BinOp.xor IntKind.i32 (-1) (k : Int) = -(k : Int) - 1 := i32_not _ (by omega) (by omega)
  have A : Aside (KW c (c.cnt (k :: opens t)) (todoV t) t.length (c.Fnd (upd vis k true)) v37 W) := hkw
  have HC : Aside (c.Ok ∧ TInv c.K (EN c.sc c.ord c.K) c.I vis ((k : Int) :: t) ∧ TInv c.K (EN c.sc c.ord c.K) c.I (upd vis k true) ((kidsOf c.at_ lo hi).reverse ++ (-(k : Int) - 1) :: t) ∧ c.fst k = lo ∧ c.fst (k + 1) = hi ∧ hi ≤ c.T) := ⟨hc, hT, hTV, hf1, hf2, hle2⟩
  have HX : Aside (∀ a W n, n < 2 * cb (fun k => !vis k) c.K + (opens t).length → RelW c n a W → Q .normal a W) := hnext
  obtain ⟨i, hi0, hzz⟩ := Option.map_eq_some_iff.1 info21
  simp only [Prod.mk.injEq] at hzz
  obtain ⟨hz0, hz1, hz2⟩ := hzz
  have HI : Hid (Yba.prog.info? 21 = some i ∧ i.size = 1) := ⟨hi0, hz1⟩
  obtain ⟨K2, eK2⟩ : ∃ K2, K2 = 2 * c.K := ⟨_, rfl⟩
  have EK2 : Aside (K2 = 2 * c.K) := eK2
  obtain ⟨tl, etl⟩ : ∃ tl, tl = t.length := ⟨_, rfl⟩
  have ETL : Aside (tl = t.length) := etl
  obtain ⟨nk, enk⟩ : ∃ nk : Int, nk = -(k : Int) - 1 := ⟨_, rfl⟩
  have ENK : Aside (nk = -(k : Int) - 1) := enk
  rw [← enk] at hxor
  have HR : Aside (W.ownsRow (c.w.heap.size + 5) 21 1 (.slice (some ⟨c.Td, 0, none⟩) tl K2) tl (todoV t)) := by rw [etl, eK2]; exact hkw.rt
  have hroom : tl + 1 + (hi - lo) ≤ K2 := by omega
  unfold frW fw
  rw [← eK2, ← etl]
  clear hkw hT hTV hc hnext hi0 hz0 hz1 hz2 elo ehi hf1 hf2 hlen eK2 etl enk htl hlen2
  conv => arg 2; whnf
  have hsg : IntKind.i32.signed = true := rfl
  go_wp2_with (at_builtin; refine wpList_append_fits _ rfl (.tmp 341) (.tmp 344) 57 rfl (c.w.heap.size + 5) 21 i 1 Yba.underlying57 HI.out.1 HI.out.2 c.Td tl K2 (todoV t) rfl ?a1 ⟨W.heap.size, 0, none⟩ 1 1 [.int .i32 nk] rfl rfl ?a2 ?a3 ?a4 ?a5)
  case a1 => exact HR.out.alloc _
  try case a2 => exact cells_one W 21 (.int .i32 nk)
  case a3 =>
    intro u hu
    rw [List.mem_singleton.1 hu]
    rfl
  case a4 => omega
  case a5 =>
  intro w1 hown1 hgrow1
  have A2 : Aside (KW c (c.cnt (k :: opens t)) (todoV t ++ [.int .i32 nk]) (tl + 1) (c.Fnd (upd vis k true)) v37 w1) := by
    have h1 := A.out.later ((Below.refl _ _).alloc (Nat.le_refl _) (.cells #[.int .i32 nk] 21))
    exact h1.todo HC.out.1 hgrow1 (by rw [← EK2.out]; exact hown1)
  have cs1 : w1.cell? ⟨c.F, k, none⟩ = some (.int .i32 (lo : Int)) := by rw [A2.out.fx.rf k (by omega), HC.out.2.2.2.1]
  have cs2 : w1.cell? ⟨c.F, k + 1, none⟩ = some (.int .i32 (hi : Int)) := by rw [A2.out.fx.rf (k + 1) (by omega), HC.out.2.2.2.2.1]
  obtain ⟨ad, m, hsl, had⟩ := slice_mid2 (c.F + 1) lo hi c.T hle1 hle2
  obtain ⟨W', hrun, r1, r2⟩ := run_append_fits (P := Yba.prog) w1.drew (c.w.heap.size + 5) 57 57 21 i 1 Yba.underlying57 HI.out.1 HI.out.2 c.Td (tl + 1) K2 (todoV t ++ [.int .i32 nk]) (World.ownsRow.drew hown1) ad (hi - lo) m ((kidsOf c.at_ lo hi).map (fun e => .int .i32 e)) (by simp [kids_len])
    (by
      intro j u hj
      have hjl : j < hi - lo := by
        have := (List.getElem?_eq_some_iff.1 hj).1
        simpa [kids_len] using this
      rw [had (by omega)]
      show w1.cell? _ = _
      rw [Addr.add_lit, A2.out.fx.rk (lo + j) (by omega)]
      rw [← hj]
      simp [kidsOf, hjl])
    (by
      intro u hu
      obtain ⟨e, _, rfl⟩ := List.mem_map.1 hu
      rfl) (by omega)
  have HW : Aside (W'.ownsRow (c.w.heap.size + 5) 21 1 (.slice (some ⟨c.Td, 0, none⟩) (tl + 1 + (hi - lo)) K2) (tl + 1 + (hi - lo)) (todoV t ++ [.int .i32 nk] ++ (kidsOf c.at_ lo hi).map (fun e => .int .i32 e)) ∧ w1.drew.grownBy W' (some c.Td)) := ⟨r1, r2⟩
  clear r1 r2 had hown1 hgrow1 HR hxor hsg
  go_wp2
  have HRUN : Hid ((Builtin.append_ #[57, 57] 57 #[.slice (some ⟨c.Td, 0, none⟩) (tl + 1) K2, .slice (some ad) (hi - lo) m]).run Yba.prog w1.drew = .ok (.slice (some ⟨c.Td, 0, none⟩) (tl + 1 + (hi - lo)) K2) W') := hrun
  have hwk : IntKind.i32.wrap ((k : Int) + 1) = (k : Int) + 1 := w32 _ (by omega) (by omega)
  have hk0 : (0 : Int) ≤ (k : Int) + 1 := by omega
  clear hrun
  have HX2 : Hid (Aside (KW c (c.cnt (k :: opens t)) (todoV t ++ [.int .i32 nk]) (tl + 1) (c.Fnd (upd vis k true)) v37 w1)) := A2
  clear A A2
  refine wp_region_noPanic ?_
  go_region_law (refine step_append_run rfl (.tmp 346) (.tmp 357) 57 rfl (.slice (some ⟨c.Td, 0, none⟩) (tl + 1) K2) (.slice (some ad) (hi - lo) m) (.slice (some ⟨c.Td, 0, none⟩) (tl + 1 + (hi - lo)) K2) W' rfl rfl HRUN.out ?_)
  all_goals
    refine NoPanic.normal ?_
    go_simp
    obtain ⟨hc, hT, hTV, _, _, _⟩ := HC.out
    obtain ⟨r1, r2⟩ := HW.out
    have hvk := (hT.pend k List.mem_cons_self).2.1
    have hop : opens ((kidsOf c.at_ lo hi).reverse ++ (-(k : Int) - 1) :: t) = k :: opens t := by
      rw [opens_app, opens_neg]
      intro e he
      by_cases ce : e < 0
      · obtain ⟨m', m1, m2, m3⟩ := hTV.opn e (List.mem_append.2 (.inl he)) ce
        obtain ⟨i', i1, i2, i3⟩ := kids_mem.1 (List.mem_reverse.1 he)
        exfalso
        obtain ⟨_, _, h3⟩ := List.nodup_append.1 hTV.nd
        by_cases ek : m' = k
        · exact h3 e he (-(k : Int) - 1) List.mem_cons_self (by rw [m1, ek])
        · have := KIDS.out i' i1 i2
          omega
      · omega
    have hcb : cb (fun j => !(upd vis k true j)) c.K + 1 = cb (fun j => !vis j) c.K := by
      have h1 := cb_flip (P := fun j => !vis j) (k := k) (by simp [hvk]) hkK
      rw [← h1]
      congr 1
      refine cb_congr (fun j _ => ?_)
      by_cases e : j = k
      · subst e; simp [upd_same]
      · simp [upd_ne e]
    refine HX.out _ _ (2 * cb (fun j => !(upd vis k true j)) c.K + (opens ((kidsOf c.at_ lo hi).reverse ++ (-(k : Int) - 1) :: t)).length) ?_ (RelW.mk (T := (kidsOf c.at_ lo hi).reverse ++ (-(k : Int) - 1) :: t) (vis := upd vis k true) (by unfold frW; rw [← EK2.out]; rfl) ?_ rfl hTV ?_)
    · rw [hop, List.length_cons]
      omega
    · have := ETL.out
      simp [kids_len]
      omega
    · rw [hop]
      have h1 := (HX2.out.out.later (W' := w1.drew) ((Below.refl _ _).drew)).todo hc r2 (by rw [← EK2.out]; exact r1)
      have e1 : todoV ((kidsOf c.at_ lo hi).reverse ++ (-(k : Int) - 1) :: t) = todoV t ++ [.int .i32 nk] ++ (kidsOf c.at_ lo hi).map (fun e => .int .i32 e) := by
        rw [ENK.out]
        simp [todoV]
      have e2 : ((kidsOf c.at_ lo hi).reverse ++ (-(k : Int) - 1) :: t).length = tl + 1 + (hi - lo) := by
        have := ETL.out
        simp [kids_len]
        omega
      rw [e1, e2]
      exact h1
end Go.Proofs.Ybulkexnju.W
