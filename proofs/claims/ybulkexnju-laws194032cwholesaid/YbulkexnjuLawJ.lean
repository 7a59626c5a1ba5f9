/-
  The law: its end; the whole.
-/
import Derived.Test.YbulkexnjuLawI
import Derived.Test.YbulkexnjuLawH
namespace Go.Proofs.Ybulkexnju.W
open Go.RowKit Go.Proofs.Ybulkexnju.G
set_option linter.unusedVariables false
set_option maxRecDepth 100000

set_option maxHeartbeats 32000000 in
theorem law_last {d : LD} (hd : d.Ok) :
    ∀ a W, RelL4 d a W → (tail4 25).wp Yba.prog (bodyPost Yba.prog Yba.f4 (lawR d.w)) a W := by
  rintro a W ⟨x, g7, g8, g9, g10, gf, gs, c7, c8, c9, c10, r, v, W7, rfl, hq, hb7, hwp⟩
  have hn4 := hd.n4
  have hns8 := hd.ns8
  obtain ⟨H, eH⟩ : ∃ H, H = d.H := ⟨_, rfl⟩
  obtain ⟨m5, hm5⟩ : ∃ m5, m5 = 5 * d.n := ⟨_, rfl⟩
  obtain ⟨Su, eSu⟩ : ∃ Su, Su = W7.heap.size := ⟨_, rfl⟩
  have up : ∀ (p : Addr) (u : Value), W7.cell? p = some u → W.cell? p = some u := fun p u h => cell_later hb7 h
  have C14 : Aside (∀ m, Calls Yba.prog 14 #[.slice (some ⟨H, 0, none⟩) d.n d.n, .slice (some ⟨g7, 0, none⟩) d.n c7] (W.drewN m) _) := fun m => eq14_any H g7 d.n d.n c7 (fun i => opc (d.kd i)) (W.drewN m) (by omega) (fun i hi => by rw [eH]; exact up _ _ (hq.lb.c0 hi)) (fun i hi => up _ _ (hq.k7 i hi))
  have C15 : Aside (∀ m, Calls Yba.prog 15 #[.slice (some ⟨H + 1, 0, none⟩) d.n d.n, .slice (some ⟨g8, 0, none⟩) d.n c8] (W.drewN m) _) := fun m => eq15_any (H + 1) g8 d.n d.n c8 (fun i => 5 * (i : Int)) (W.drewN m) (by omega) (fun i hi => by rw [eH]; exact up _ _ (hq.lb.c1 hi)) (fun i hi => up _ _ (hq.k8 i hi))
  have C16 : Aside (∀ m, Calls Yba.prog 16 #[.slice (some ⟨H + 3, 0, none⟩) m5 m5, .slice (some ⟨g9, 0, none⟩) m5 c9] (W.drewN m) _) := fun m => eq16_any (H + 3) g9 m5 m5 c9 idxV (W.drewN m) (by omega) (fun i hi => by rw [eH]; exact up _ _ (hq.lb.c3 (by omega))) (fun i hi => up _ _ (hq.k9 i (by omega)))
  have C17 : Aside (∀ m, Calls Yba.prog 17 #[.slice (some ⟨H + 2, 0, none⟩) m5 m5, .slice (some ⟨g10, 0, none⟩) m5 c10] (W.drewN m) _) := fun m => eq17_any (H + 2) g10 m5 m5 c10 (codeV d) (W.drewN m) (by omega) (fun i hi => by rw [eH]; exact up _ _ (hq.lb.c2 (by omega))) (fun i hi => up _ _ (hq.k10 i (by omega)))
  have fp : W.cell? ⟨gf, 1, none⟩ = some (.int .i64 d.np) := up _ _ hq.fp
  have fs : W.cell? ⟨gf, 2, none⟩ = some (.slice (some ⟨gs, 0, none⟩) d.ns d.ns) := up _ _ hq.fs
  have fc : W.cell? ⟨gf, 4, none⟩ = some (.slice (some ⟨H + 2, 0, none⟩) m5 m5) := by rw [eH, hm5]; exact up _ _ hq.fc
  have HB : Aside (Below d.w.heap.size d.w W) := hq.lb.bel.trans (hb7.mono (by have := hq.lb.big; show d.w.heap.size ≤ _; unfold LD.H at this; omega))
  have C13 : Aside ((r = .slice none 0 0 ∧ v = .slice none 0 0) ∨ ∃ b b', r = .slice (some ⟨b, 0, none⟩) d.ns d.ns ∧ v = .slice (some ⟨b', 0, none⟩) d.ns d.ns ∧ Calls Yba.prog 13 #[.slice (some ⟨b, 0, none⟩) d.ns d.ns, .slice (some ⟨b', 0, none⟩) d.ns d.ns] W fun e w' => e = .returned (.bool true) ∧ ∃ n, w' = W.drewN n) := by
    rcases hq.got with ⟨h1, h2⟩ | ⟨b, f, h1, h2, h3, z, h4, h5⟩
    · rcases hwp with ⟨k1, k2⟩ | ⟨b', f', k1, k2, k3, k4, z, k5, k6⟩
      · exact .inl ⟨h1, k1⟩
      · exact absurd k6 (h2 z)
    · rcases hwp with ⟨k1, k2⟩ | ⟨b', f', k1, k2, k3, k4, z', k5, k6⟩
      · exact absurd h5 (k2 z)
      · refine .inr ⟨b, b', h1, k1, eq13_any b b' d.ns d.ns d.ns f W (by omega) (fun i hi => up _ _ (h2 i hi)) (fun i hi => ?_)⟩
        rw [k2.cell hi]
        congr 2
        have a1 := h3 i hi
        have a2 := k4 i hi
        cases c1 : f i <;> cases c2 : f' i <;> simp_all
  have E : Aside (H = d.H ∧ m5 = 5 * d.n) := ⟨eH, hm5⟩
  unfold frL2 fl
  rw [← eSu, ← hm5, ← eH]
  clear hq hb7 hwp hd up eH hm5 eSu
  conv => arg 2; whnf
  rcases C13.out with ⟨rfl, rfl⟩ | ⟨b, b', rfl, rfl, c13⟩
  · have heq := eql_nil
    have c13 : Aside (Calls Yba.prog 13 #[.slice none 0 0, .slice none 0 0] W _) := eq13_none none none 0 0 W
    go_wp2_with (first | (go_at_call 13; refine Calls.mono c13.out ?_; rintro e w1 ⟨rfl, m1, rfl⟩) | (go_at_call 14; refine Calls.mono (C14.out _) ?_; rintro e w1 ⟨rfl, m2, rfl⟩) | (go_at_call 15; refine Calls.mono (C15.out _) ?_; rintro e w1 ⟨rfl, m3, rfl⟩) | (go_at_call 16; refine Calls.mono (C16.out _) ?_; rintro e w1 ⟨rfl, m4, rfl⟩) | (go_at_call 17; refine Calls.mono (C17.out _) ?_; rintro e w1 ⟨rfl, m5', rfl⟩))
    go_ret
    exact ⟨rfl, below_drewN HB.out _⟩
  · have heq := eql_not ⟨b, 0, none⟩ d.ns d.ns
    have heq2 := eql_not ⟨b', 0, none⟩ d.ns d.ns
    have C13' : Aside (Calls Yba.prog 13 #[.slice (some ⟨b, 0, none⟩) d.ns d.ns, .slice (some ⟨b', 0, none⟩) d.ns d.ns] W _) := c13
    clear c13
    go_wp2_with (first | (go_at_call 13; refine Calls.mono C13'.out ?_; rintro e w1 ⟨rfl, m1, rfl⟩) | (go_at_call 14; refine Calls.mono (C14.out _) ?_; rintro e w1 ⟨rfl, m2, rfl⟩) | (go_at_call 15; refine Calls.mono (C15.out _) ?_; rintro e w1 ⟨rfl, m3, rfl⟩) | (go_at_call 16; refine Calls.mono (C16.out _) ?_; rintro e w1 ⟨rfl, m4, rfl⟩) | (go_at_call 17; refine Calls.mono (C17.out _) ?_; rintro e w1 ⟨rfl, m5', rfl⟩))
    go_ret
    exact ⟨rfl, below_drewN HB.out _⟩

/-- the law, whatever it is handed -/
theorem law_any {w : World} {p s n cap : Nat} {a : Option Addr} {O A : Nat → Nat} (hp : p < 256) (hs : s < 256) (hn : n ≤ 9223372036854775807) (hO : ∀ i, i < n → O i < 256) (hA : ∀ i, i < n → A i < 65536)
    (hsl : 0 < n → ∃ b off, a = some ⟨b, off, none⟩ ∧ ∀ i, i < n → w.cell? ⟨b, off + i * 2, none⟩ = some (.int .u8 (O i : Int)) ∧ w.cell? ⟨b, off + i * 2 + 1, none⟩ = some (.int .u16 (A i : Int))) :
    Calls Yba.prog 4 #[.int .u8 (p : Int), .int .u8 (s : Int), .slice a n cap] w (lawR w) := by
  by_cases h : 4096 < n
  · exact law_long _ _ _ _ _ _ h hn
  · obtain ⟨d, ed⟩ : ∃ d : LD, d = ⟨w, n, 1 + s % 8, p % (1 + s % 8 + 1), O, A⟩ := ⟨_, rfl⟩
    have hd : d.Ok := by
      rw [ed]
      refine ⟨by show n ≤ 4096; omega, by show 1 ≤ 1 + s % 8; omega, by show 1 + s % 8 ≤ 8; omega, ?_, hO, hA⟩
      show p % (1 + s % 8 + 1) ≤ 1 + s % 8
      have := Nat.mod_lt p (show 1 + s % 8 + 1 > 0 by omega)
      omega
    have key := law_start (a := a) (cap := cap) hd hp hs (by rw [ed]) (by rw [ed]) (fun h0 => by
      obtain ⟨b, off, ha, hcell⟩ := hsl (by rw [ed] at h0; exact h0)
      refine ⟨b, off, ha, fun i hi W hb => ?_⟩
      rw [ed] at hi hb ⊢
      obtain ⟨k1, k2⟩ := hcell i hi
      exact ⟨cell_later hb k1, cell_later hb k2⟩) (law_look hd (law_cover hd (law_want hd (law_last hd))))
    rw [ed] at key
    exact key
end Go.Proofs.Ybulkexnju.W
