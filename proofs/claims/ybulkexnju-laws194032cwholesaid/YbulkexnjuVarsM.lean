/-
  watchedVars: one entry is taken off the stack; the walk; the whole.
-/
import Derived.Test.YbulkexnjuVarsL
import Derived.Test.YbulkexnjuVarsE2
namespace Go.Proofs.Ybulkexnju.W
open Go.RowKit Go.Proofs.Ybulkexnju.G
set_option linter.unusedVariables false
set_option maxRecDepth 100000

/-- the stack holds e on top -/
def RelT (c : WC) (e : Int) (t : List Int) (vis : Nat → Bool) (a : Act) (W : World) : Prop :=
  ∃ (x : Nat → Value) (v37 : Value), a = ⟨(frW c x v37 (t.length + 1) (x 39) (x 40) (x 41)).toArray, []⟩ ∧
    TInv c.K (EN c.sc c.ord c.K) c.I vis (e :: t) ∧ KW c (c.cnt (opens (e :: t))) (todoV (e :: t)) (t.length + 1) (c.Fnd vis) v37 W

theorem RelT.mk {c : WC} {e : Int} {l : List Value} {W : World} {t : List Int} {vis : Nat → Bool} {v37 : Value} (hf : l = frW c (nth l) v37 (t.length + 1) (nth l 39) (nth l 40) (nth l 41))
    (h2 : TInv c.K (EN c.sc c.ord c.K) c.I vis (e :: t)) (h3 : KW c (c.cnt (opens (e :: t))) (todoV (e :: t)) (t.length + 1) (c.Fnd vis) v37 W) : RelT c e t vis ⟨l.toArray, []⟩ W :=
  ⟨nth l, v37, by rw [← hf], h2, h3⟩

theorem B7_eq : B7 = .seq (leftOf B7) (.seq (leftOf (right 1 B7)) (.seq (.seq (leftOf (leftOf (right 2 B7))) (.cond (.tmp 253) U7 .skip)) (right 3 B7))) := rfl

set_option maxHeartbeats 8000000 in
theorem walk_pop {c : WC} (hc : c.Ok) {Q : Exit → Act → World → Prop} {e : Int} {t : List Int} {vis : Nat → Bool} (hneg : e < 0 → ∀ a W K, RelE c e t vis a W → U7.wp Yba.prog (Exit.then K Q) a W) (hpos : 0 ≤ e → ∀ a W, RelE c e t vis a W → (right 3 B7).wp Yba.prog Q a W) :
    ∀ a W, RelT c e t vis a W → B7.wp Yba.prog Q a W := by
  rintro a W ⟨x, v37, rfl, hT, hkw⟩
  have hkb := hc.tr.kb
  have htl := TInv.rest hT
  have ce : W.cell? ⟨c.Td, t.length, none⟩ = some (.int .i32 e) := by
    rw [hkw.rt.cellAt t.length (by omega), todoV_cons, List.getElem?_append_right (by rw [todoV_len]; exact Nat.le_refl _), todoV_len]
    simp
  have A : Aside (TInv c.K (EN c.sc c.ord c.K) c.I vis (e :: t) ∧ KW c (c.cnt (opens (e :: t))) (todoV (e :: t)) (t.length + 1) (c.Fnd vis) v37 W) := ⟨hT, hkw⟩
  rw [B7_eq]
  generalize hU : U7 = U at *
  generalize hR : right 3 B7 = R at *
  generalize h76 : leftOf B7 = c76
  generalize h77 : leftOf (right 1 B7) = c77
  generalize h78 : leftOf (leftOf (right 2 B7)) = c78
  conv at h76 => lhs; whnf
  conv at h77 => lhs; whnf
  conv at h78 => lhs; whnf
  subst h76 h77 h78
  obtain ⟨K2, eK2⟩ : ∃ K2, K2 = 2 * c.K := ⟨_, rfl⟩
  have EK2 : Aside (K2 = 2 * c.K) := eK2
  obtain ⟨tl, etl⟩ : ∃ tl, tl = t.length := ⟨_, rfl⟩
  have ETL : Aside (tl = t.length) := etl
  unfold frW fw
  rw [← eK2, ← etl]
  rw [← etl] at ce
  have h1 : (tl : Int) < (tl : Int) + 1 := by omega
  have h2 : tl ≤ K2 := by omega
  have h3 : (tl : Int) ≤ (K2 : Int) := by omega
  have h4 : (tl : Int) ≤ (tl : Int) + 1 := by omega
  have h5 : K2 ≤ 10000 := by omega
  have hown : Aside (W.ownsRow (c.w.heap.size + 5) 21 1 (.slice (some ⟨c.Td, 0, none⟩) t.length (2 * c.K)) t.length (todoV t)) := by
    have := hkw.rt
    rw [todoV_cons] at this
    exact ownsRow_pop (by rw [todoV_len]; omega) this
  clear hkw hT hc eK2 etl hU hR htl
  conv => arg 3; whnf
  by_cases he : e < 0
  · have H : Aside (∀ a W K, RelE c e t vis a W → U.wp Yba.prog (Exit.then K Q) a W) := hneg he
    clear hneg hpos
    go_wp2
    exact H.out _ _ _ (RelE.mk (by unfold frW; rw [← EK2.out, ← ETL.out]; rfl) A.out.1 (A.out.2.retodo hown.out))
  · have H : Aside (∀ a W, RelE c e t vis a W → R.wp Yba.prog Q a W) := hpos (by omega)
    have he0 : 0 ≤ e := by omega
    clear hneg hpos he
    go_wp2
    exact H.out _ _ (RelE.mk (by unfold frW; rw [← EK2.out, ← ETL.out]; rfl) A.out.1 (A.out.2.retodo hown.out))

theorem C7_eq : C7 = .seq (leftOf C7) (.block 17 B7) := rfl

theorem fnd_all {c : WC} (hc : c.Ok) {vis : Nat → Bool} (hv : ∀ k, k < c.K → vis k = true) {x : Nat} : c.Fnd vis x ↔ c.V.Wat x := by
  refine Iff.trans ?_ (watched_iff (rd := c.V.rd) (sg := c.V.sg) (xv := c.V.X) (np := c.V.np) (x := x) hc.tr.made hc.tr.dom)
  exact ⟨fun ⟨k, h1, h2, h3⟩ => ⟨k, h1, h3⟩, fun ⟨k, h1, h3⟩ => ⟨k, h1, hv k h1, h3⟩⟩

set_option maxHeartbeats 8000000 in
theorem vars_walk {V : VE} {w : World} (hin : V.In w) :
    ∀ a W, RelV6 V w a W → (tail11 23).wp Yba.prog (bodyPost Yba.prog Yba.f11 (varsR V w)) a W := by
  rintro a W ⟨x, St, go, F, Se, NB, K, T, ld, st, sc, ord, I, fst, at_, rfl, hNB, hfx, hrow, htr⟩
  have hkb := htr.kb
  have hk1 := htr.dom.k1
  have hse := hrow.lt
  obtain ⟨c, ec⟩ : ∃ c : WC, c = ⟨V, w, St, go, F, Se, W.heap.size, NB, K, T, ld, st, sc, ord, I, fst, at_⟩ := ⟨_, rfl⟩
  have hc : c.Ok := by rw [ec]; exact ⟨hin, hNB, htr, hse⟩
  obtain ⟨p, hp⟩ := htr.dom.doms
  have hti : TInv c.K (EN c.sc c.ord c.K) c.I (fun _ => false) [0] := by rw [ec]; exact TInv.start hp hk1 (fun _ => rfl)
  have hkw : KW c (c.cnt (opens [0])) (todoV [0]) 1 (c.Fnd (fun _ => false)) (.slice none 0 0) (W.alloc (.cells (madeCells #[.int .i32 0] (2 * K)) 21)) := by
    have hb : Below W.heap.size W (W.alloc (.cells (madeCells #[.int .i32 0] (2 * K)) 21)) := (Below.refl _ _).alloc (Nat.le_refl _) _
    rw [ec]
    refine ⟨hfx.later (hb.mono (Nat.le_of_lt hse)), (hrow.alloc _).congr (fun i _ => ?_), ?_, .inl ⟨rfl, ?_⟩⟩
    · rw [opens_pos (by omega)]
      simp only [WC.cnt, opens, sumO]
      split <;> rfl
    · exact owns_made W (w.heap.size + 5) 1 (2 * K) hfx.vb.env.big (by omega) (by omega)
    · rintro y ⟨k, _, h, _⟩; cases h
  have A : Aside (c.Ok ∧ TInv c.K (EN c.sc c.ord c.K) c.I (fun _ => false) [0] ∧ KW c (c.cnt (opens [0])) (todoV [0]) 1 (c.Fnd (fun _ => false)) (.slice none 0 0) (W.alloc (.cells (madeCells #[.int .i32 0] (2 * K)) 21)) ∧ c = ⟨V, w, St, go, F, Se, W.heap.size, NB, K, T, ld, st, sc, ord, I, fst, at_⟩) := ⟨hc, hti, hkw, ec⟩
  have hmk := make_lc .i64 .i64 1 (2 * K) (by omega) (by omega)
  rw [show ((1 : Nat) : Int) = 1 from rfl, show ((2 * K : Nat) : Int) = 2 * (K : Int) by omega] at hmk
  unfold fv
  conv => arg 2; whnf
  clear hfx hrow htr ec hc hp hti hkw hin hNB
  go_wp2
  clear hmk
  rename_i K0 hK0
  refine wp_loop_ghost_k (RelW c) (2 * cb (fun k => !(fun _ => false) k) c.K + (opens [0]).length) ?_ ?_
  · obtain ⟨hc, hti, hkw, ec⟩ := A.out
    refine RelW.mk (T := [0]) (vis := fun _ => false) (v37 := .slice none 0 0) (len := 1) ?_ rfl rfl hti hkw
    rw [ec]
    rfl
  · rintro n a wr ⟨y, T', vis, v37, rfl, rfl, hT, hkw⟩ J KJ hJ hKJ
    obtain ⟨hc, _, _, ec⟩ := A.out
    cases T' with
    | nil =>
      have A2 : Aside (TInv c.K (EN c.sc c.ord c.K) c.I vis [] ∧ KW c (c.cnt (opens [])) (todoV []) 0 (c.Fnd vis) v37 wr) := ⟨hT, hkw⟩
      clear hT hkw hJ hKJ hc ec
      unfold frW fw
      conv => arg 2; whnf
      go_wp2
      go_ret
      obtain ⟨hT, hkw⟩ := A2.out
      obtain ⟨hc, _, _, ec⟩ := A.out
      have hv : ∀ k, k < c.K → vis k = true := fun k hk => hT.done hk
      have hV : c.V = V := by rw [ec]
      have hw : c.w = w := by rw [ec]
      have hbel := hkw.fx.vb.bel
      rw [hw] at hbel
      refine ⟨v37, rfl, hbel, ?_⟩
      rcases hkw.wt with ⟨h1, h2⟩ | ⟨b, f, h1, h2, h3, h4, h5, h6, z, h7, h8⟩
      · refine .inl ⟨h1, fun z hz => h2 z ((fnd_all hc hv).2 ?_)⟩
        rw [hV]; exact hz
      · rw [hV] at h1 h2 h6 h7
        refine .inr ⟨b, f, h1, h2, fun z hz => ?_, z, h7, ?_⟩
        · rw [h6 z hz, fnd_all hc hv, hV]
        · have := (fnd_all hc hv).1 h8
          rw [hV] at this; exact this
    | cons e t =>
      have hW : ∀ a' W', (∃ n', n' < 2 * cb (fun k => !vis k) c.K + (opens (e :: t)).length ∧ RelW c n' a' W') → KJ a' W' := fun a' W' ⟨n', h1, h2⟩ => hKJ a' W' (Handed.intro n' h1 (hJ _ _ _ h2))
      refine wp_seq_k (y := .block 17 B7) (fun K1 hK1 => ?_)
      have hX : ∀ a' W', RelT c e t vis a' W' → K1 a' W' := by
        intro a' W' h
        refine hK1 a' W' (wp_block (walk_pop hc (fun he => ?_) (fun he => ?_) a' W' h))
        · obtain ⟨m, m1, m2, m3⟩ := hT.opn e List.mem_cons_self he
          subst m1
          intro a1 W1 K1 h1
          refine walk_undo hc (fun a2 W2 h2 => hW a2 W2 ⟨_, ?_, h2⟩) a1 W1 h1
          rw [opens_neg, List.length_cons]
          omega
        · obtain ⟨k, rfl⟩ : ∃ k : Nat, e = (k : Int) := ⟨e.toNat, by omega⟩
          refine walk_visit hc hT (walk_push hc hT (fun a2 W2 n2 hn2 h2 => hW a2 W2 ⟨n2, ?_, h2⟩))
          rw [opens_pos (by omega)]
          exact hn2
      have A3 : Aside (∀ a' W', RelT c e t vis a' W' → K1 a' W') := hX
      have A4 : Aside (TInv c.K (EN c.sc c.ord c.K) c.I vis (e :: t) ∧ KW c (c.cnt (opens (e :: t))) (todoV (e :: t)) (t.length + 1) (c.Fnd vis) v37 wr) := ⟨hT, hkw⟩
      clear hX hK1 hT hkw hJ hKJ hW hc ec
      unfold frW fw
      rw [List.length_cons]
      obtain ⟨tl, etl⟩ : ∃ tl, tl = t.length := ⟨_, rfl⟩
      have ETL : Aside (tl = t.length) := etl
      rw [← etl]
      have htl : (0 : Int) < (tl : Int) + 1 := by omega
      clear etl
      conv => arg 2; whnf
      go_wp2
      exact A3.out _ _ (RelT.mk (by unfold frW; rw [← ETL.out]; rfl) A4.out.1 A4.out.2)

/-- watchedVars -/
theorem vars_any {V : VE} {w : World} (hin : V.In w) :
    Calls Yba.prog 11 #[.pointer (some ⟨V.gf, 0, none⟩), .slice (some ⟨V.gops, 0, none⟩) V.n V.n, .slice (some ⟨V.goff, 0, none⟩) V.n V.n, .slice (some ⟨V.gidx, 0, none⟩) (5 * V.n) (5 * V.n)] w (varsR V w) :=
  vars_start hin (vars_leads hin (vars_count hin (vars_blocks hin (vars_succ hin (vars_tree hin (vars_walk hin))))))
end Go.Proofs.Ybulkexnju.W
