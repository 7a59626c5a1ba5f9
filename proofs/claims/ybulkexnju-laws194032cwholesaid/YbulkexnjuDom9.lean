/-
  dominators: the main loop.
-/
import Derived.Test.YbulkexnjuDom8
namespace Go.Proofs.Ybulkexnju.W
open Go.RowKit Go.Proofs.Ybulkexnju.G
set_option linter.unusedVariables false
set_option maxRecDepth 100000

/-- the main loop is over: region 62 is next -/
def Rel9 (NB : Nat) (sc : Nat → Int) (w : World) (a : Act) (W : World) : Prop :=
  ∃ (x : Nat → Value) (bo K c0 c3 c8 : Nat) (num : Nat → Int) (ord par tv tj s : Nat → Nat) (sm idom : Nat → Int),
    a = ⟨(fr7 x (.slice (some ⟨bo, 0, none⟩) K NB) (.slice (some ⟨c8, 0, none⟩) K K) (.int .i64 (K : Int)) (.pointer (some ⟨c0, 0, none⟩))).toArray, []⟩ ∧
    DInv NB sc num ord par K 0 tv tj ∧ Semi K (EN sc ord K) s ∧ W.ownsRow (w.heap.size + 1) 21 1 (.slice (some ⟨bo, 0, none⟩) K NB) K (wayV ord K) ∧
    W.rowIs c0 57 1 (fun _ => .slice (some ⟨c3, 0, none⟩) K K) ∧ W.rowIs c3 21 K (fun i => .int .i32 (sm i)) ∧ W.rowIs c8 21 K (fun i => .int .i32 (idom i)) ∧ (∀ x, 0 < x → x < K → sm x = s x) ∧ (∀ v, 0 < v → v < K → Done par s v (idom v)) ∧
    c8 ≠ bo ∧ c8 ≠ c0 ∧ c8 ≠ c3 ∧ w.heap.size ≤ c8 ∧ w.heap.size ≤ bo ∧ Below w.heap.size w W

theorem Rel9.mk {NB : Nat} {sc : Nat → Int} {w : World} {l : List Value} {W : World} {bo K c0 c3 c8 : Nat} {num : Nat → Int} {ord par tv tj s : Nat → Nat} {sm idom : Nat → Int}
    (hf : l = fr7 (nth l) (.slice (some ⟨bo, 0, none⟩) K NB) (.slice (some ⟨c8, 0, none⟩) K K) (.int .i64 (K : Int)) (.pointer (some ⟨c0, 0, none⟩)))
    (h : DInv NB sc num ord par K 0 tv tj ∧ Semi K (EN sc ord K) s ∧ W.ownsRow (w.heap.size + 1) 21 1 (.slice (some ⟨bo, 0, none⟩) K NB) K (wayV ord K) ∧
    W.rowIs c0 57 1 (fun _ => .slice (some ⟨c3, 0, none⟩) K K) ∧ W.rowIs c3 21 K (fun i => .int .i32 (sm i)) ∧ W.rowIs c8 21 K (fun i => .int .i32 (idom i)) ∧ (∀ x, 0 < x → x < K → sm x = s x) ∧ (∀ v, 0 < v → v < K → Done par s v (idom v)) ∧
    c8 ≠ bo ∧ c8 ≠ c0 ∧ c8 ≠ c3 ∧ w.heap.size ≤ c8 ∧ w.heap.size ≤ bo ∧ Below w.heap.size w W) : Rel9 NB sc w ⟨l.toArray, []⟩ W :=
  ⟨nth l, bo, K, c0, c3, c8, num, ord, par, tv, tj, s, sm, idom, by rw [← hf], h⟩

set_option maxHeartbeats 8000000 in
theorem dom_main {NB g : Nat} {sc : Nat → Int} {w : World} (hin : DomIn NB g sc w) (hnext : ∀ a W, Rel9 NB sc w a W → (tail30 17).wp Yba.prog (bodyPost Yba.prog Yba.f30 (domR NB sc w)) a W) :
    ∀ a W, Rel7 NB g sc w a W → (tail30 14).wp Yba.prog (bodyPost Yba.prog Yba.f30 (domR NB sc w)) a W := by
  rintro a W ⟨x, bo, bq, S, T, K, L, c, num, ord, par, tv, tj, fst, at_, next, idom, rfl, hdg, N9, R⟩
  have hKN := hdg.inv.kN
  have hK1 := hdg.inv.k1
  have hnb := hin.nb
  have HX : Aside (∀ a W, Rel9 NB sc w a W → (tail30 17).wp Yba.prog (bodyPost Yba.prog Yba.f30 (domR NB sc w)) a W) := hnext
  obtain ⟨s, hs⟩ := hdg.inv.dfs.semi
  obtain ⟨d, hd⟩ : ∃ d, d = upd c 9 W.heap.size := ⟨_, rfl⟩
  have de : ∀ i, i < 9 → c i = d i := fun i hi => by rw [hd, upd_ne (by omega)]
  have d9 : W.heap.size = d 9 := by rw [hd, upd_same]
  have N : Bks 10 L (W.heap.size + 1) d := by
    refine ⟨fun i hi => ?_, fun i j hi hj hij => ?_⟩
    · by_cases e : i = 9
      · rw [e, ← d9]; have := hdg.b5; omega
      · rw [← de i (by omega)]; have := N9.ge i (by omega); omega
    · by_cases e : i = 9
      · rw [e, ← d9, ← de j (by omega)]; have := N9.ge j (by omega); omega
      · rw [← de i (by omega)]
        by_cases e2 : j = 9
        · rw [e2, ← d9]; have := N9.ge i (by omega); omega
        · rw [← de j (by omega)]; exact N9.ne i j (by omega) (by omega) hij
  have C : LC NB K sc num ord par tv tj fst at_ bo bq S T w L (W.heap.size + 1) d s W := ⟨hdg, N, hs, hnb, hin.bd⟩
  have R' : Rws K d (fun i => (i : Int)) (fun i => (i : Int)) (fun _ => -1) (fun _ => -1) next idom W := by
    obtain ⟨r0, r1, r2, r3, r4, r5, r6, r7, r8⟩ := R
    rw [de 0 (by omega), de 3 (by omega)] at r0
    rw [de 1 (by omega), de 4 (by omega)] at r1
    rw [de 2 (by omega), de 5 (by omega)] at r2
    rw [de 3 (by omega)] at r3
    rw [de 4 (by omega)] at r4
    rw [de 5 (by omega)] at r5
    rw [de 6 (by omega)] at r6
    rw [de 7 (by omega)] at r7
    rw [de 8 (by omega)] at r8
    exact ⟨r0, r1, r2, r3, r4, r5, r6, r7, r8⟩
  have hLW : LW K L (W.heap.size + 1) d W (fun i => (i : Int)) (fun i => (i : Int)) (fun _ => -1) (fun _ => -1) next idom (W.alloc (.cells #[.slice none 0 0] 57)) :=
    ⟨R'.alloc _, by rw [← d9]; exact (newBox W).frozen 0, ⟨none, 0, 0, [], by rw [← d9]; exact (newBox W).cell (by omega), World.ownsRow_nil _ _ _ _⟩, by simp, (Below.refl _ _).alloc hdg.b5 _⟩
  unfold fr8
  rw [de 0 (by omega), de 1 (by omega), de 2 (by omega), de 6 (by omega), de 7 (by omega), de 8 (by omega)]
  conv => arg 2; whnf
  have A : Aside (LC NB K sc num ord par tv tj fst at_ bo bq S T w L (W.heap.size + 1) d s W ∧ LW K L (W.heap.size + 1) d W (fun i => (i : Int)) (fun i => (i : Int)) (fun _ => -1) (fun _ => -1) next idom (W.alloc (.cells #[.slice none 0 0] 57)) ∧ W.heap.size = d 9) := ⟨C, hLW, d9⟩
  clear hdg N9 R hin hnext hs hd de N C R' hLW d9
  obtain ⟨k, hk⟩ : ∃ k, k = K - 1 := ⟨_, rfl⟩
  have hki : (K : Int) - 1 = (k : Int) := by omega
  have hkK : k < K := by omega
  have HK : Aside (k = K - 1) := hk
  clear hk
  go_wp2
  rename_i hK
  have hK' : ∀ a W, Rel9 NB sc w a W → _ := fun a W h => hK a W (HX.out a W h)
  clear hK
  rw [(A.out).2.2]
  refine wp_loop (fun a W' => ∃ gk, gk < K ∧ RelL NB K bo bq S T w L (W.heap.size + 1) d par s W gk gk gk a W') (fun a _ => (intOf (nth a.tmps.toList 24)).toNat) ?_ ?_
  · obtain ⟨C, hLW, d9⟩ := A.out
    have hk := HK.out
    refine ⟨k, hkK, RelL.mk (Lb := fun _ => []) rfl hLW ?_ ?_ (fun x _ => rfl) (fun x h1 h2 => by omega)⟩
    · rw [hk]; exact LInv.start (fun v _ => rfl) (fun v _ => rfl)
    · rw [hk]; exact BInv.start (fun v _ => rfl)
  · rintro a wr ⟨gk, hgK, hR⟩
    obtain ⟨C, _, d9⟩ := A.out
    have hR' := hR
    obtain ⟨y, sm, label, link, bucket, nxt, idm, Lb, rfl, hlw, hL, hB, hlo, hhi⟩ := hR
    have hgi : (gk : Int) < (K : Int) := by omega
    by_cases h0 : 0 < gk
    · have h0i : (0 : Int) < (gk : Int) := by omega
      refine wp_seq_k (fun K1 hK1 => ?_)
      have hX : ∀ a' W', RelL NB K bo bq S T w L (W.heap.size + 1) d par s W gk gk gk a' W' → K1 a' W' := by
        intro a' W' h
        refine hK1 a' W' (wp_seq_k (fun K2 hK2 => wp_block (lt_semi C h0 hgK (lt_bucket C h0 hgK (fun a2 W2 h2 => hK2 a2 W2 ?_)) a' W' h)))
        obtain ⟨x2, sm2, lb2, lk2, bk2, nx2, id2, Lb2, rfl, e1, e2, e3, e4, e5⟩ := h2
        obtain ⟨g1, hg1⟩ : ∃ g1, g1 = gk - 1 := ⟨_, rfl⟩
        have hg1i : (gk : Int) - 1 = (g1 : Int) := by omega
        have hgl : g1 < gk := by omega
        rw [← hg1] at e2 e3 e4 e5
        have A2 : Aside (LW K L (W.heap.size + 1) d W sm2 lb2 lk2 bk2 nx2 id2 W2 ∧ LInv K par s g1 lb2 lk2 ∧ BInv K par s g1 bk2 nx2 id2 Lb2 ∧ (∀ x, x ≤ g1 → sm2 x = x) ∧ (∀ x, g1 < x → x < K → sm2 x = s x)) := ⟨e1, e2, e3, e4, e5⟩
        clear e1 e2 e3 e4 e5 hlw hL hB hlo hhi hK1 hK2 h C hg1 hR'
        unfold frL fr9
        go_wp2
        obtain ⟨e1, e2, e3, e4, e5⟩ := A2.out
        refine ⟨⟨g1, by omega, RelL.mk rfl e1 e2 e3 e4 e5⟩, ?_⟩
        show (g1 : Int).toNat < (gk : Int).toNat
        omega
      have A3 : Aside (∀ a' W', RelL NB K bo bq S T w L (W.heap.size + 1) d par s W gk gk gk a' W' → K1 a' W') := hX
      have A4 : Aside (LW K L (W.heap.size + 1) d W sm label link bucket nxt idm wr ∧ LInv K par s gk label link ∧ BInv K par s gk bucket nxt idm Lb ∧ (∀ x, x ≤ gk → sm x = x) ∧ (∀ x, gk < x → x < K → sm x = s x)) := ⟨hlw, hL, hB, hlo, hhi⟩
      clear hK1 hX hlw hL hB hlo hhi C hR'
      unfold frL fr9
      go_wp2
      obtain ⟨hlw, hL, hB, hlo, hhi⟩ := A4.out
      exact A3.out _ _ (RelL.mk rfl hlw hL hB hlo hhi)
    · obtain rfl : gk = 0 := by omega
      have A4 : Aside (LW K L (W.heap.size + 1) d W sm label link bucket nxt idm wr ∧ LInv K par s 0 label link ∧ BInv K par s 0 bucket nxt idm Lb ∧ (∀ x, x ≤ 0 → sm x = x) ∧ (∀ x, 0 < x → x < K → sm x = s x)) := ⟨hlw, hL, hB, hlo, hhi⟩
      clear hlw hL hB hlo hhi C hR'
      unfold frL fr9
      go_wp2
      obtain ⟨hlw, hL, hB, hlo, hhi⟩ := A4.out
      obtain ⟨C, _, d9⟩ := A.out
      have dg := C.dg.below hlw.bel
      have D := dg.inv.dfs
      have g8 := (C.bk.ge 8 (by omega)).1
      have hbo := dg.b1
      have h4 := dg.b4
      have hob := (dg.ro.lt bo rfl).1
      refine Rel9.mk (c3 := d 3) rfl ⟨dg.inv, C.sem, dg.ro, hlw.rws.x0, hlw.rws.r3, hlw.rws.r8, hhi, fun v h1 h2 => hB.all_done D C.sem h1 h2, by omega, C.bk.ne 8 0 (by omega) (by omega) (by omega), C.bk.ne 8 3 (by omega) (by omega) (by omega), by omega, by omega, dg.bel⟩
end Go.Proofs.Ybulkexnju.W
