/-
  The law: the slots that are wanted.
-/
import Derived.Test.YbulkexnjuLawF
namespace Go.Proofs.Ybulkexnju.W
open Go.RowKit Go.Proofs.Ybulkexnju.G
set_option linter.unusedVariables false
set_option maxRecDepth 100000

/-- slot x is wanted by one of the instructions below i -/
def LD.WI (d : LD) (i x : Nat) : Prop := ∃ k, k < i ∧ Rch d.E 0 k ∧ d.rd k = true ∧ d.np ≤ d.X k ∧ ¬ d.CovB d.n k ∧ d.X k = x

theorem LD.WI_succ {d : LD} {i x : Nat} : d.WI (i + 1) x ↔ d.WI i x ∨ (Rch d.E 0 i ∧ d.rd i = true ∧ d.np ≤ d.X i ∧ ¬ d.CovB d.n i ∧ d.X i = x) := by
  constructor
  · rintro ⟨k, hk, h⟩
    by_cases e : k = i
    · subst e; exact .inr h
    · exact .inl ⟨k, by omega, h⟩
  · rintro (⟨k, hk, h⟩ | h)
    · exact ⟨k, by omega, h⟩
    · exact ⟨i, by omega, h⟩

theorem LD.WI_all {d : LD} {x : Nat} : d.WI d.n x ↔ d.Wat x := by
  constructor
  · rintro ⟨k, h1, h2, h3, h4, h5, h6⟩
    refine ⟨k, h1, h2, h3, h6, by omega, ?_⟩
    rintro ⟨j, j1, j2, j3, j4, j5⟩
    exact h5 ⟨j, j1, j3, fun e => j2 e.symm, h2, j5, h3, by rw [h6, j4]⟩
  · rintro ⟨k, h1, h2, h3, h4, h5, h6⟩
    refine ⟨k, h1, h2, h3, by omega, ?_, h4⟩
    rintro ⟨j, j1, j2, j3, j4, j5, j6, j7⟩
    exact h6 ⟨j, j1, fun e => j3 e.symm, j2, by rw [← j7]; exact h4, j5⟩

/-- nil, or a row that marks the slots of P -/
def WP (d : LD) (P : Nat → Prop) (M : Nat) (v : Value) (W : World) : Prop :=
  (v = .slice none 0 0 ∧ ∀ x, ¬ P x) ∨ ∃ (b : Nat) (f : Nat → Bool), v = .slice (some ⟨b, 0, none⟩) d.ns d.ns ∧ W.rowIs b 4 d.ns (fun i => .bool (f i)) ∧ M ≤ b ∧ (∀ x, x < d.ns → (f x = true ↔ P x)) ∧ ∃ x, x < d.ns ∧ P x

/-- what is wanted is known: region 97 is next -/
def RelL4 (d : LD) (a : Act) (W : World) : Prop :=
  ∃ (x : Nat → Value) (g7 g8 g9 g10 gf gs c7 c8 c9 c10 : Nat) (r v : Value) (W7 : World), a = ⟨(frL2 d x g7 g8 g9 g10 gf c7 c8 c9 c10 r W7.heap.size (x 31) (x 32) (x 33) (x 34) v).toArray, []⟩ ∧
    LQ d g7 g8 g9 g10 gf gs r W7 ∧ Below W7.heap.size W7 W ∧ WP d d.Wat 0 v W

theorem RelL4.mk {d : LD} {l : List Value} {W : World} {g7 g8 g9 g10 gf gs c7 c8 c9 c10 : Nat} {r v : Value} {W7 : World} (hf : l = frL2 d (nth l) g7 g8 g9 g10 gf c7 c8 c9 c10 r W7.heap.size (nth l 31) (nth l 32) (nth l 33) (nth l 34) v)
    (h1 : LQ d g7 g8 g9 g10 gf gs r W7) (h2 : Below W7.heap.size W7 W) (h3 : WP d d.Wat 0 v W) : RelL4 d ⟨l.toArray, []⟩ W :=
  ⟨nth l, g7, g8, g9, g10, gf, gs, c7, c8, c9, c10, r, v, W7, by rw [← hf], h1, h2, h3⟩

theorem WP.congr {d : LD} {P P' : Nat → Prop} {M : Nat} {v : Value} {W : World} (h : WP d P M v W) (h2 : ∀ x, P x ↔ P' x) : WP d P' M v W := by
  rcases h with ⟨e, n⟩ | ⟨b, f, e1, e2, e3, e4, x, e5, e6⟩
  · exact .inl ⟨e, fun x hx => n x ((h2 x).2 hx)⟩
  · exact .inr ⟨b, f, e1, e2, e3, fun x hx => (e4 x hx).trans (h2 x), x, e5, (h2 x).1 e6⟩

theorem LD.Ok.xsm {d : LD} (h : d.Ok) {i : Nat} (hk : d.kd i ≤ 2) : d.X i < d.ns := by
  have hk' : kdV d.O i ≤ 2 := hk
  show xV d.n d.ns d.O d.A i < d.ns
  unfold xV
  rw [if_pos hk']
  exact Nat.mod_lt _ (by have := h.ns1; omega)

set_option maxHeartbeats 32000000 in
theorem law_want {d : LD} (hd : d.Ok) (hnext : ∀ a W, RelL4 d a W → (tail4 25).wp Yba.prog (bodyPost Yba.prog Yba.f4 (lawR d.w)) a W) :
    ∀ a W, RelL3 d a W → (tail4 23).wp Yba.prog (bodyPost Yba.prog Yba.f4 (lawR d.w)) a W := by
  rintro a W ⟨x, g7, g8, g9, g10, gf, gs, c7, c8, c9, c10, R0, r, W7, W8, rc, cov, rfl, hq, hb8, hc0, hrs, hbW, hrow, hcov⟩
  have hn4 := hd.n4
  have hns1 := hd.ns1
  have hns8 := hd.ns8
  have HD : Aside d.Ok := hd
  have HX : Aside (∀ a W, RelL4 d a W → (tail4 25).wp Yba.prog (bodyPost Yba.prog Yba.f4 (lawR d.w)) a W) := hnext
  obtain ⟨H, eH⟩ : ∃ H, H = d.H := ⟨_, rfl⟩
  obtain ⟨m5, hm5⟩ : ∃ m5, m5 = 5 * d.n := ⟨_, rfl⟩
  obtain ⟨Su, eSu⟩ : ∃ Su, Su = W7.heap.size := ⟨_, rfl⟩
  obtain ⟨Cv, eCv⟩ : ∃ Cv, Cv = W8.heap.size := ⟨_, rfl⟩
  have E : Aside (H = d.H ∧ m5 = 5 * d.n ∧ Su = W7.heap.size) := ⟨eH, hm5, eSu⟩
  have hb7W : Below W7.heap.size W7 W := hb8.trans (hbW.mono hb8.size)
  have HQ : Aside (LQ d g7 g8 g9 g10 gf gs r W7 ∧ Below W7.heap.size W7 W) := ⟨hq, hb7W⟩
  have HF : Aside (∀ i, i < d.n → ∀ wr, Below W.heap.size W wr → wr.cell? ⟨R0, i, none⟩ = some (.bool (rc i)) ∧ wr.cell? ⟨Cv, i, none⟩ = some (.bool (cov i)) ∧ wr.cell? ⟨H + 4, i, none⟩ = some (.int .i64 (d.kd i : Int)) ∧ wr.cell? ⟨H + 5, i, none⟩ = some (.int .i64 (d.X i : Int))) := by
    intro i hi wr hb
    rw [eCv, eH]
    exact ⟨cell_later hb (cell_later hbW (hc0 i hi)), cell_later hb (hrow.cell hi), cell_later hb (cell_later hb7W (hq.lb.c4 hi)), cell_later hb (cell_later hb7W (hq.lb.c5 hi))⟩
  have HS : Aside (∀ i, i < d.n → (rc i = true ↔ Rch d.E 0 i) ∧ (cov i = true ↔ d.CovB d.n i)) := fun i hi => ⟨hrs i hi, hcov i hi⟩
  unfold frL2 fl
  rw [← eCv, ← eSu, ← hm5, ← eH]
  clear hq hb8 hc0 hrs hbW hrow hcov hd hnext hm5 eH eSu eCv hb7W
  conv => arg 2; whnf
  go_wp2
  rename_i hK
  have hK' : ∀ a W, RelL4 d a W → _ := fun a W h => hK a W (HX.out a W h)
  clear hK
  go_loopg [37, 36] d.n (fun gk s37 s36 wr => ∃ i : Nat, i ≤ d.n ∧ gk = d.n - i ∧ s37 = .int .i64 (i : Int) ∧ Below W.heap.size W wr ∧ WP d (d.WI i) W.heap.size s36 wr)
  case atStart => exact ⟨0, by omega, rfl, rfl, Below.refl _ _, .inl ⟨rfl, fun x ⟨k, hk, _⟩ => by omega⟩⟩
  case round =>
    obtain ⟨i, hi, rfl, rfl, hbel, hwp⟩ := hrel
    by_cases hin : i < d.n
    · have hi4 : (i : Int) < (d.n : Int) := by omega
      obtain ⟨cR, cC, cK, cX⟩ := HF.out i hin wr hbel
      have F : Aside ((rc i = true ↔ Rch d.E 0 i) ∧ (cov i = true ↔ d.CovB d.n i)) := HS.out i hin
      obtain ⟨rb, erb⟩ : ∃ rb, rb = rc i := ⟨_, rfl⟩
      obtain ⟨cb, ecb⟩ : ∃ cb, cb = cov i := ⟨_, rfl⟩
      obtain ⟨k, ek⟩ : ∃ k, k = d.kd i := ⟨_, rfl⟩
      obtain ⟨xi, exi⟩ : ∃ xi, xi = d.X i := ⟨_, rfl⟩
      rw [← erb] at cR F
      rw [← ecb] at cC F
      rw [← ek] at cK
      rw [← exi] at cX
      have G : Aside (k = d.kd i ∧ xi = d.X i) := ⟨ek, exi⟩
      have A2 : Aside (Below W.heap.size W wr ∧ WP d (d.WI i) W.heap.size u36 wr) := ⟨hbel, hwp⟩
      clear hbel hwp erb ecb ek exi
      cases rb with
      | false =>
        go_wp2
        go_roundg (d.n - (i + 1))
        case measure => omega
        case rel =>
          obtain ⟨h1, h2⟩ := A2.out
          refine ⟨i + 1, by omega, rfl, by go_num, h1, WP.congr h2 (fun z => ?_)⟩
          rw [LD.WI_succ]
          exact ⟨.inl, fun h => h.elim id (fun h => (by have := F.out.1.2 h.1; cases this))⟩
      | true =>
        by_cases hk0 : k = 0
        · subst hk0
          rw [show ((0 : Nat) : Int) = 0 from rfl] at cK
          have hxs : xi < d.ns := by rw [G.out.2]; exact HD.out.xsm (by have := G.out.1; omega)
          have hxsi : (xi : Int) < (d.ns : Int) := by omega
          by_cases hp : d.np ≤ xi
          · have hpi : (d.np : Int) ≤ (xi : Int) := by omega
            cases cb with
            | true =>
              go_wp2
              go_roundg (d.n - (i + 1))
              case measure => omega
              case rel =>
                obtain ⟨h1, h2⟩ := A2.out
                refine ⟨i + 1, by omega, rfl, by go_num, h1, WP.congr h2 (fun z => ?_)⟩
                rw [LD.WI_succ]
                exact ⟨.inl, fun h => h.elim id (fun h => absurd (F.out.2.1 (by first | exact True.intro | rfl)) h.2.2.2.1)⟩
            | false =>
              have HU : Aside (∀ z, d.WI (i + 1) z ↔ d.WI i z ∨ z = xi) := by
                intro z
                rw [LD.WI_succ]
                obtain ⟨ek, exi⟩ := G.out
                refine or_congr Iff.rfl ⟨fun h => by rw [exi]; exact h.2.2.2.2.symm, fun h => ⟨F.out.1.1 rfl, (d.rd_iff i).2 (by omega), by omega, fun h5 => (by have := F.out.2.2 h5; cases this), by rw [h, exi]⟩⟩
              rcases A2.out.2 with ⟨hv, hno⟩ | ⟨b, f, hv, hf1, hf2, hf3, hf4⟩
              · subst hv
                have HNO : Aside (∀ z, ¬ d.WI i z) := hno
                have hmk := make_bool .i64 .i64 d.ns (by omega) wr
                obtain ⟨W1, hW1⟩ : ∃ W1, W1 = wr.alloc (.cells (madeCells #[.bool false] d.ns) 4) := ⟨_, rfl⟩
                rw [← hW1] at hmk
                have hr1 : W1.rowIs wr.heap.size 4 d.ns (fun _ => .bool false) := by rw [hW1]; exact World.rowIs_made wr (.bool false) d.ns 4
                have hb1 : Below W.heap.size W W1 := by rw [hW1]; exact A2.out.1.alloc A2.out.1.size _
                have cX1 : W1.cell? ⟨H + 5, i, none⟩ = some (.int .i64 (xi : Int)) := by rw [(HF.out i hin W1 hb1).2.2.2, G.out.2]
                have cB := hr1.cell hxs
                have fB := hr1.frozen xi
                have heq := eql_nil
                have A5 : Aside (W1.rowIs wr.heap.size 4 d.ns (fun _ => .bool false) ∧ Below W.heap.size W W1 ∧ W.heap.size ≤ wr.heap.size) := ⟨hr1, hb1, A2.out.1.size⟩
                clear hno hr1 hb1 hW1
                go_wp2
                go_roundg (d.n - (i + 1))
                case measure => omega
                case rel =>
                  obtain ⟨hr1, hb1, hsz⟩ := A5.out
                  refine ⟨i + 1, by omega, rfl, by go_num, hb1.trans ((one_set _ _ _ _).mono hsz), .inr ⟨wr.heap.size, fun z => decide (z = xi), rfl, (hr1.set xi _).congr (fun z _ => ?_), hsz, fun z _ => ?_, xi, hxs, (HU.out xi).2 (.inr rfl)⟩⟩
                  · by_cases c : z = xi <;> simp [c]
                  · rw [HU.out z, decide_eq_true_iff]
                    exact ⟨.inr, fun h => h.elim (fun h => absurd h (HNO.out z)) id⟩
              · subst hv
                have cB := hf1.cell hxs
                have fB := hf1.frozen xi
                have heq := eql_not ⟨b, 0, none⟩ d.ns d.ns
                have A5 : Aside (wr.rowIs b 4 d.ns (fun i => .bool (f i)) ∧ W.heap.size ≤ b ∧ (∀ x, x < d.ns → (f x = true ↔ d.WI i x))) := ⟨hf1, hf2, hf3⟩
                clear hf1 hf2 hf3 hf4
                go_wp2
                go_roundg (d.n - (i + 1))
                case measure => omega
                case rel =>
                  obtain ⟨hf1, hf2, hf3⟩ := A5.out
                  refine ⟨i + 1, by omega, rfl, by go_num, A2.out.1.trans ((one_set _ _ _ _).mono hf2), .inr ⟨b, upd f xi true, rfl, (hf1.set xi _).congr (fun z _ => ?_), hf2, fun z hz => ?_, xi, hxs, (HU.out xi).2 (.inr rfl)⟩⟩
                  · unfold upd; by_cases c : z = xi <;> simp [c]
                  · rw [HU.out z]
                    by_cases c : z = xi
                    · rw [c, upd_same]; exact ⟨fun _ => .inr rfl, fun _ => rfl⟩
                    · rw [upd_ne c, hf3 z hz]; exact ⟨.inl, fun h => h.elim id (fun h => absurd h c)⟩
          · have hpi : decide ((d.np : Int) ≤ (xi : Int)) = false := decide_eq_false (by omega)
            have hpn : decide (d.np ≤ xi) = false := decide_eq_false hp
            have HP : Aside (¬ d.np ≤ xi) := hp
            clear hp
            go_wp2
            go_roundg (d.n - (i + 1))
            case measure => omega
            case rel =>
              obtain ⟨h1, h2⟩ := A2.out
              refine ⟨i + 1, by omega, rfl, by go_num, h1, WP.congr h2 (fun z => ?_)⟩
              rw [LD.WI_succ]
              exact ⟨.inl, fun h => h.elim id (fun h => absurd (by rw [G.out.2]; exact h.2.2.1) HP.out)⟩
        · by_cases hk1 : k = 1
          · subst hk1
            rw [show ((1 : Nat) : Int) = 1 from rfl] at cK
            have hxs : xi < d.ns := by rw [G.out.2]; exact HD.out.xsm (by have := G.out.1; omega)
            have hxsi : (xi : Int) < (d.ns : Int) := by omega
            by_cases hp : d.np ≤ xi
            · have hpi : (d.np : Int) ≤ (xi : Int) := by omega
              cases cb with
              | true =>
                go_wp2
                go_roundg (d.n - (i + 1))
                case measure => omega
                case rel =>
                  obtain ⟨h1, h2⟩ := A2.out
                  refine ⟨i + 1, by omega, rfl, by go_num, h1, WP.congr h2 (fun z => ?_)⟩
                  rw [LD.WI_succ]
                  exact ⟨.inl, fun h => h.elim id (fun h => absurd (F.out.2.1 (by first | exact True.intro | rfl)) h.2.2.2.1)⟩
              | false =>
                have HU : Aside (∀ z, d.WI (i + 1) z ↔ d.WI i z ∨ z = xi) := by
                  intro z
                  rw [LD.WI_succ]
                  obtain ⟨ek, exi⟩ := G.out
                  refine or_congr Iff.rfl ⟨fun h => by rw [exi]; exact h.2.2.2.2.symm, fun h => ⟨F.out.1.1 rfl, (d.rd_iff i).2 (by omega), by omega, fun h5 => (by have := F.out.2.2 h5; cases this), by rw [h, exi]⟩⟩
                rcases A2.out.2 with ⟨hv, hno⟩ | ⟨b, f, hv, hf1, hf2, hf3, hf4⟩
                · subst hv
                  have HNO : Aside (∀ z, ¬ d.WI i z) := hno
                  have hmk := make_bool .i64 .i64 d.ns (by omega) wr
                  obtain ⟨W1, hW1⟩ : ∃ W1, W1 = wr.alloc (.cells (madeCells #[.bool false] d.ns) 4) := ⟨_, rfl⟩
                  rw [← hW1] at hmk
                  have hr1 : W1.rowIs wr.heap.size 4 d.ns (fun _ => .bool false) := by rw [hW1]; exact World.rowIs_made wr (.bool false) d.ns 4
                  have hb1 : Below W.heap.size W W1 := by rw [hW1]; exact A2.out.1.alloc A2.out.1.size _
                  have cX1 : W1.cell? ⟨H + 5, i, none⟩ = some (.int .i64 (xi : Int)) := by rw [(HF.out i hin W1 hb1).2.2.2, G.out.2]
                  have cB := hr1.cell hxs
                  have fB := hr1.frozen xi
                  have heq := eql_nil
                  have A5 : Aside (W1.rowIs wr.heap.size 4 d.ns (fun _ => .bool false) ∧ Below W.heap.size W W1 ∧ W.heap.size ≤ wr.heap.size) := ⟨hr1, hb1, A2.out.1.size⟩
                  clear hno hr1 hb1 hW1
                  go_wp2
                  go_roundg (d.n - (i + 1))
                  case measure => omega
                  case rel =>
                    obtain ⟨hr1, hb1, hsz⟩ := A5.out
                    refine ⟨i + 1, by omega, rfl, by go_num, hb1.trans ((one_set _ _ _ _).mono hsz), .inr ⟨wr.heap.size, fun z => decide (z = xi), rfl, (hr1.set xi _).congr (fun z _ => ?_), hsz, fun z _ => ?_, xi, hxs, (HU.out xi).2 (.inr rfl)⟩⟩
                    · by_cases c : z = xi <;> simp [c]
                    · rw [HU.out z, decide_eq_true_iff]
                      exact ⟨.inr, fun h => h.elim (fun h => absurd h (HNO.out z)) id⟩
                · subst hv
                  have cB := hf1.cell hxs
                  have fB := hf1.frozen xi
                  have heq := eql_not ⟨b, 0, none⟩ d.ns d.ns
                  have A5 : Aside (wr.rowIs b 4 d.ns (fun i => .bool (f i)) ∧ W.heap.size ≤ b ∧ (∀ x, x < d.ns → (f x = true ↔ d.WI i x))) := ⟨hf1, hf2, hf3⟩
                  clear hf1 hf2 hf3 hf4
                  go_wp2
                  go_roundg (d.n - (i + 1))
                  case measure => omega
                  case rel =>
                    obtain ⟨hf1, hf2, hf3⟩ := A5.out
                    refine ⟨i + 1, by omega, rfl, by go_num, A2.out.1.trans ((one_set _ _ _ _).mono hf2), .inr ⟨b, upd f xi true, rfl, (hf1.set xi _).congr (fun z _ => ?_), hf2, fun z hz => ?_, xi, hxs, (HU.out xi).2 (.inr rfl)⟩⟩
                    · unfold upd; by_cases c : z = xi <;> simp [c]
                    · rw [HU.out z]
                      by_cases c : z = xi
                      · rw [c, upd_same]; exact ⟨fun _ => .inr rfl, fun _ => rfl⟩
                      · rw [upd_ne c, hf3 z hz]; exact ⟨.inl, fun h => h.elim id (fun h => absurd h c)⟩
            · have hpi : decide ((d.np : Int) ≤ (xi : Int)) = false := decide_eq_false (by omega)
              have hpn : decide (d.np ≤ xi) = false := decide_eq_false hp
              have HP : Aside (¬ d.np ≤ xi) := hp
              clear hp
              go_wp2
              go_roundg (d.n - (i + 1))
              case measure => omega
              case rel =>
                obtain ⟨h1, h2⟩ := A2.out
                refine ⟨i + 1, by omega, rfl, by go_num, h1, WP.congr h2 (fun z => ?_)⟩
                rw [LD.WI_succ]
                exact ⟨.inl, fun h => h.elim id (fun h => absurd (by rw [G.out.2]; exact h.2.2.1) HP.out)⟩
          · have k0 : ((k : Int) == 0) = false := by simp; omega
            have k1 : ((k : Int) == 1) = false := by simp; omega
            have HKK : Aside (¬ k = 0 ∧ ¬ k = 1) := ⟨hk0, hk1⟩
            clear hk0 hk1
            go_wp2
            go_roundg (d.n - (i + 1))
            case measure => omega
            case rel =>
              obtain ⟨h1, h2⟩ := A2.out
              refine ⟨i + 1, by omega, rfl, by go_num, h1, WP.congr h2 (fun z => ?_)⟩
              rw [LD.WI_succ]
              exact ⟨.inl, fun h => h.elim id (fun h => absurd ((d.rd_iff i).1 h.2.1) (by have h6 := HKK.out; have h7 := G.out.1; omega))⟩
    · obtain rfl : i = d.n := by omega
      have A2 : Aside (Below W.heap.size W wr ∧ WP d (d.WI d.n) W.heap.size u36 wr) := ⟨hbel, hwp⟩
      clear hbel hwp hin
      go_wp2
      obtain ⟨h1, h2⟩ := A2.out
      obtain ⟨eH, hm5, eSu⟩ := E.out
      obtain ⟨q1, q2⟩ := HQ.out
      refine RelL4.mk (by unfold frL2; rw [← eSu, ← hm5, ← eH]; rfl) q1 (q2.trans (h1.mono q2.size)) ?_
      rcases WP.congr h2 (fun z => LD.WI_all) with h | ⟨b, f, e1, e2, e3, e4⟩
      · exact .inl h
      · exact .inr ⟨b, f, e1, e2, Nat.zero_le _, e4⟩
end Go.Proofs.Ybulkexnju.W
