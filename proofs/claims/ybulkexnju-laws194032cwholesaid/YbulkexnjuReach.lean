/-
  THE LAW's OWN REFERENCE: zzs194032creach marks just what is reached past 'avoid'.
-/
import Derived.Test.YbulkexnjuCopies
import Derived.Deep.LoopGhost
namespace Go.Proofs.Ybulkexnju.W
open Go.RowKit Go.Proofs.Ybulkexnju.G
set_option linter.unusedVariables false

/-- a step of the reference's walk -/
def St (n : Nat) (sI : Nat → Int) (av : Int) (x y : Nat) : Prop := (x < n ∧ G.Edge sI x y) ∧ (y : Int) ≠ av

/-- the walk's invariant: R is marked, xs is the stack; of the node v at hand the first d successors are done -/
structure RInv (n : Nat) (sI : Nat → Int) (av : Int) (R : Nat → Bool) (xs : List Nat) (v d : Nat) : Prop where
  mem : ∀ x, x ∈ xs → x < n ∧ R x = true
  snd : ∀ x, x < n → R x = true → Rch (St n sI av) 0 x
  cls : ∀ x, x < n → R x = true → x ∉ xs → ∀ j, j < 2 → (x = v → j < d) → ∀ y : Nat, sI (2 * x + j) = y → (y : Int) ≠ av → R y = true
  r0 : R 0 = true

theorem RInv.start {n : Nat} {sI : Nat → Int} {av : Int} {R : Nat → Bool} (hR : ∀ i, i < n → R i = if i = 0 then true else false) (hn : 0 < n) : RInv n sI av R [0] 0 2 := by
  refine ⟨fun x hx => ?_, fun x hx h => ?_, fun x hx h hm => ?_, ?_⟩
  · obtain rfl : x = 0 := by simpa using hx
    exact ⟨hn, by rw [hR 0 hn]; rfl⟩
  · rw [hR x hx] at h
    by_cases c : x = 0
    · subst c; exact Rch.refl 0
    · rw [if_neg c] at h; cases h
  · rw [hR x hx] at h
    by_cases c : x = 0
    · subst c; exact absurd List.mem_cons_self hm
    · rw [if_neg c] at h; cases h
  · rw [hR 0 hn]; rfl

theorem RInv.pop {n : Nat} {sI : Nat → Int} {av : Int} {R : Nat → Bool} {xs : List Nat} {v u : Nat} (h : RInv n sI av R (xs ++ [v]) u 2) : v < n ∧ R v = true ∧ RInv n sI av R xs v 0 := by
  have hv := h.mem v (List.mem_append.2 (.inr List.mem_cons_self))
  refine ⟨hv.1, hv.2, fun x hx => h.mem x (List.mem_append.2 (.inl hx)), h.snd, fun x hx hr hm j hj hd y hy hne => ?_, h.r0⟩
  by_cases c : x = v
  · exact absurd (hd c) (Nat.not_lt_zero _)
  · exact h.cls x hx hr (fun hm2 => by
      rcases List.mem_append.1 hm2 with h1 | h1
      · exact hm h1
      · exact c (by simpa using h1)) j hj (fun _ => hj) y hy hne

theorem RInv.skip {n : Nat} {sI : Nat → Int} {av : Int} {R : Nat → Bool} {xs : List Nat} {v d : Nat} (h : RInv n sI av R xs v d) (hd : d < 2) (hs : ∀ y : Nat, sI (2 * v + d) = y → (y : Int) ≠ av → R y = true) : RInv n sI av R xs v (d + 1) := by
  refine ⟨h.mem, h.snd, fun x hx hr hm j hj hd' y hy hne => ?_, h.r0⟩
  by_cases c : x = v ∧ j = d
  · obtain ⟨rfl, rfl⟩ := c
    exact hs y hy hne
  · exact h.cls x hx hr hm j hj (fun e => by have := hd' e; omega) y hy hne

theorem RInv.push {n : Nat} {sI : Nat → Int} {av : Int} {R : Nat → Bool} {xs : List Nat} {v d y : Nat} (h : RInv n sI av R xs v d) (hv : v < n) (hrv : R v = true) (hd : d < 2) (hy : sI (2 * v + d) = y) (hyn : y < n) (hne : (y : Int) ≠ av) :
    RInv n sI av (upd R y true) (xs ++ [y]) v (d + 1) := by
  have hup : ∀ x, R x = true → upd R y true x = true := by
    intro x hx
    by_cases c : x = y
    · rw [c, upd_same]
    · rw [upd_other _ _ c]; exact hx
  refine ⟨fun x hx => ?_, fun x hx hr => ?_, fun x hx hr hm j hj hd' z hz hnz => ?_, hup 0 h.r0⟩
  · rcases List.mem_append.1 hx with h1 | h1
    · exact ⟨(h.mem x h1).1, hup x (h.mem x h1).2⟩
    · obtain rfl : x = y := by simpa using h1
      exact ⟨hyn, upd_same _ _ _⟩
  · by_cases c : x = y
    · subst c; exact (h.snd v hv hrv).step ⟨⟨hv, d, hd, hy⟩, hne⟩
    · rw [upd_other _ _ c] at hr; exact h.snd x hx hr
  · by_cases c : x = y
    · exact absurd (List.mem_append.2 (.inr (by rw [c]; exact List.mem_cons_self))) hm
    · rw [upd_other _ _ c] at hr
      by_cases c2 : x = v ∧ j = d
      · obtain ⟨rfl, rfl⟩ := c2
        obtain rfl : z = y := by omega
        exact upd_same _ _ _
      · exact hup z (h.cls x hx hr (fun hm2 => hm (List.mem_append.2 (.inl hm2))) j hj (fun e => by have := hd' e; omega) z hz hnz)

theorem RInv.done {n : Nat} {sI : Nat → Int} {av : Int} {R : Nat → Bool} {v : Nat} (h : RInv n sI av R [] v 2) (hsI : ∀ e, e < 2 * n → ∀ w : Nat, sI e = w → w < n) (hn : 0 < n) {i : Nat} (hi : i < n) : R i = true ↔ Rch (St n sI av) 0 i := by
  refine ⟨h.snd i hi, fun hr => ?_⟩
  have := hr (fun x => x < n ∧ R x = true) ⟨hn, h.r0⟩ (by
    rintro x y ⟨hx, hrx⟩ ⟨⟨_, j, hj, e⟩, hne⟩
    exact ⟨hsI _ (by omega) y e, h.cls x hx hrx (fun hm => by cases hm) j hj (fun _ => hj) y e hne⟩)
  exact this.2

theorem cb_upd {R : Nat → Bool} {n y : Nat} (hy : y < n) (h : R y = false) : cb (upd R y true) n = cb R n + 1 := by
  induction n with
  | zero => omega
  | succ n ih =>
    simp only [cb]
    by_cases c : y = n
    · subst c
      rw [upd_same, h, cb_congr (Q := R) (fun j hj => upd_other _ _ (by omega))]
      simp
    · rw [ih (by omega), upd_other _ _ (show n ≠ y by omega)]; omega

theorem news1 {W : World} {H : Nat} (x : Value) (t : TypeId) (hH : W.heap.size = H) : ∀ j u, [x][j]? = some u → (W.alloc (.cells #[x] t)).cell? ((⟨H, 0, none⟩ : Addr).add j) = some u := by
  subst hH
  exact cell_one_new W x t

set_option maxRecDepth 100000 in
theorem reach_none (n gs : Nat) (av : Int) (w : World) (hn : n ≤ 4096) (h : n = 0 ∨ av = 0) :
    Calls Yba.prog 12 #[.int .i64 n, .slice (some ⟨gs, 0, none⟩) n n, .int .i64 av] w fun e w' => e = .returned (.slice (some ⟨w.heap.size, 0, none⟩) n n) ∧ w'.rowIs w.heap.size 4 n (fun _ => .bool false) ∧ Below w.heap.size w w' := by
  have hmk := run_make_row' (P := Yba.prog) 23 4 (.bool false) 1 Yba.underlying23 (by kernel_rfl) (by kernel_rfl) .i64 .i64 n (by omega) (by omega)
  have hrow := World.rowIs_made w (.bool false) n 4
  have HR : Hid ((w.alloc (.cells (madeCells #[.bool false] n) 4)).rowIs w.heap.size 4 n (fun _ => .bool false)) := hrow
  clear hrow
  by_cases h0 : n = 0
  · have h1 : ((n : Int) == 0) = true := by rw [beq_iff_eq]; omega
    clear h0 h
    go_enter Yba.func12, Yba.ntmps12
    go_wp2
    go_ret
    exact ⟨rfl, HR.out, (Below.refl _ _).alloc (Nat.le_refl _) _⟩
  · obtain rfl : av = 0 := by omega
    have h1 : ((n : Int) == 0) = false := by rw [beq_eq_false_iff_ne]; omega
    go_enter Yba.func12, Yba.ntmps12
    go_wp2
    go_ret
    exact ⟨rfl, HR.out, (Below.refl _ _).alloc (Nat.le_refl _) _⟩

set_option maxHeartbeats 1000000 in
set_option maxRecDepth 100000 in
theorem reach_some (n gs : Nat) (sI : Nat → Int) (av : Int) (w : World) (hn : n ≤ 4096) (h0 : 0 < n) (ha : av ≠ 0) (hsI : ∀ e, e < 2 * n → -1 ≤ sI e ∧ sI e < n)
    (hs : ∀ e, e < 2 * n → w.cell? ⟨gs, e, none⟩ = some (.int .i64 (sI e))) :
    Calls Yba.prog 12 #[.int .i64 n, .slice (some ⟨gs, 0, none⟩) n n, .int .i64 av] w fun e w' => e = .returned (.slice (some ⟨w.heap.size, 0, none⟩) n n) ∧ (∃ R : Nat → Bool, w'.rowIs w.heap.size 4 n (fun i => .bool (R i)) ∧ ∀ i, i < n → (R i = true ↔ Rch (St n sI av) 0 i)) ∧ Below w.heap.size w w' := by
  have hmk := run_make_row' (P := Yba.prog) 23 4 (.bool false) 1 Yba.underlying23 (by kernel_rfl) (by kernel_rfl) .i64 .i64 n (by omega) (by omega)
  have hrow := World.rowIs_made w (.bool false) n 4
  have HR : Hid ((w.alloc (.cells (madeCells #[.bool false] n) 4)).rowIs w.heap.size 4 n (fun _ => .bool false)) := hrow
  have f1 := hrow.cell (i := 0) h0
  have f2 := hrow.frozen 0
  have h1 : ((n : Int) == 0) = false := by rw [beq_eq_false_iff_ne]; omega
  have h2 : (av == 0) = false := by rw [beq_eq_false_iff_ne]; omega
  have h3 : (0 : Int) < (n : Int) := by omega
  clear hrow
  go_enter Yba.func12, Yba.ntmps12
  go_wp2
  go_loopg [8] (2 * n + 1) (fun gk v wr => ∃ (R : Nat → Bool) (xs : List Nat) (g cap u : Nat), v = .slice (some ⟨g, 0, none⟩) xs.length cap ∧ wr.rowIs w.heap.size 4 n (fun i => .bool (R i)) ∧
    wr.ownsRow (w.heap.size + 1) 3 1 (.slice (some ⟨g, 0, none⟩) xs.length cap) xs.length (xs.map fun (x : Nat) => Value.int .i64 (x : Int)) ∧ RInv n sI av R xs u 2 ∧ Below w.heap.size w wr ∧ 2 * (n - cb R n) + xs.length ≤ gk ∧ gk ≤ 2 * n + 1)
  case atStart =>
    have hrow := HR.out.set 0 (.bool true)
    rw [World.setCell_alloc_at _ _ _ _ _ rfl] at hrow
    refine ⟨fun i => if i = 0 then true else false, [0], w.heap.size + 1, 1, 0, rfl, ?_, ?_, RInv.start (fun i _ => rfl) h0, ?_, ?_, Nat.le_refl _⟩
    · refine (hrow.alloc _).congr (fun i hi => ?_)
      by_cases c : i = 0
      · simp [c]
      · simp [c]
    · have := World.ownsRow_lit (base := w.heap.size + 1) (e := 3) (size := 1) (w.alloc (.cells ((madeCells #[.bool false] n).setIfInBounds 0 (.bool true)) 4)) #[.int .i64 0] 1 (by simp) (by unfold maxLen; omega) rfl
      simpa using this
    · exact ((Below.refl _ _).alloc (Nat.le_refl _) _).alloc (by simp) _
    · have : 1 ≤ cb (fun i => if i = 0 then true else false) n := by
        have := cb_lt (P := fun i => if i = 0 then true else false) (j := 0) (m := n) rfl h0
        omega
      simp
      omega
  case round =>
    obtain ⟨R, xs, g, cap, u, rfl, hrow, hown, hinv, hbel, hgk, hgn⟩ := hrel
    clear f1 f2
    rcases List.eq_nil_or_concat xs with rfl | ⟨ys, x, hxs⟩
    · have A : Aside (wr.rowIs w.heap.size 4 n (fun i => .bool (R i)) ∧ RInv n sI av R [] u 2 ∧ Below w.heap.size w wr) := ⟨hrow, hinv, hbel⟩
      clear hrow hown hinv hbel hgk hmk HR hs
      go_wp2
      go_ret
      obtain ⟨hrow, hinv, hbel⟩ := A.out
      exact ⟨rfl, ⟨R, hrow, fun i hi => hinv.done (fun e he y hy => by have := hsI e he; omega) h0 hi⟩, hbel⟩
    · rw [List.concat_eq_append] at hxs
      subst hxs
      obtain ⟨hxn, hrx, hinv2⟩ := hinv.pop
      have c1 : wr.cell? ⟨g, ys.length, none⟩ = some (.int .i64 x) := by
        have := hown.cellAt ys.length (by simp)
        simpa using this
      have hcap : ys.length ≤ cap := by
        rcases hown.2 with ⟨h, _⟩ | ⟨g', cap', cur, hv, _, _, hn', _⟩
        · cases h
        · cases hv; simp at hn'; omega
      have hlen : (ys ++ [x]).length = ys.length + 1 := by simp
      have hown2 : wr.ownsRow (w.heap.size + 1) 3 1 (.slice (some ⟨g, 0, none⟩) ys.length cap) ys.length (ys.map fun (x : Nat) => Value.int .i64 (x : Int)) := by
        rw [hlen, List.map_append] at hown
        exact ownsRow_pop (by simp) hown
      have s0 : wr.cell? ⟨gs, x * 2, none⟩ = some (.int .i64 (sI (2 * x))) := cell_later hbel (by rw [Nat.mul_comm x 2]; exact hs (2 * x) (by omega))
      have s1 : wr.cell? ⟨gs, x * 2 + 1, none⟩ = some (.int .i64 (sI (2 * x + 1))) := cell_later hbel (by rw [Nat.mul_comm x 2]; exact hs (2 * x + 1) (by omega))
      have hk : ys.length ≤ 4 * n := by rw [hlen] at hgk; omega
      obtain ⟨k, hk2⟩ : ∃ k, k = ys.length := ⟨_, rfl⟩
      rw [hlen]
      rw [← hk2] at c1 hcap hown2 hk ⊢
      have hxi : (x : Int) < (n : Int) := by omega
      have A : Aside (wr.rowIs w.heap.size 4 n (fun i => .bool (R i)) ∧ wr.ownsRow (w.heap.size + 1) 3 1 (.slice (some ⟨g, 0, none⟩) k cap) k (ys.map fun (x : Nat) => Value.int .i64 (x : Int)) ∧ RInv n sI av R ys x 0 ∧ Below w.heap.size w wr ∧ 2 * (n - cb R n) + (k + 1) ≤ gk ∧ k = ys.length) := ⟨hrow, hown2, hinv2, hbel, by rw [hlen, ← hk2] at hgk; exact hgk, hk2⟩
      clear hrow hown hown2 hinv hinv2 hbel hgk hmk HR hs hlen hk2
      go_wp2
      go_loopg [8, 42] 2 (fun gk2 v2 s42 wr2 => ∃ (d : Nat) (R2 : Nat → Bool) (zs : List Nat) (g2 cap2 : Nat), d ≤ 2 ∧ gk2 = 2 - d ∧ s42 = .int .i64 d ∧ v2 = .slice (some ⟨g2, 0, none⟩) zs.length cap2 ∧ wr2.rowIs w.heap.size 4 n (fun i => .bool (R2 i)) ∧
        wr2.ownsRow (w.heap.size + 1) 3 1 (.slice (some ⟨g2, 0, none⟩) zs.length cap2) zs.length (zs.map fun (x : Nat) => Value.int .i64 (x : Int)) ∧ RInv n sI av R2 zs x d ∧ R2 x = true ∧ Below w.heap.size w wr2 ∧ 2 * (n - cb R2 n) + zs.length + 1 ≤ gk)
      case atStart =>
        obtain ⟨hrow, hown2, hinv2, hbel, hgk, hk2⟩ := A.out
        rw [hk2] at hown2 hgk ⊢
        exact ⟨0, R, ys, g, cap, by omega, rfl, rfl, rfl, hrow, hown2, hinv2, hrx, hbel, by omega⟩
      case round =>
        clear A c1 s0 s1
        obtain ⟨d, R2, zs, g2, cap2, hd, rfl, rfl, rfl, hrow, hown, hinv, hrx2, hbel, hm⟩ := hrel
        by_cases hd2 : d = 2
        · subst hd2
          have A : Aside (wr.rowIs w.heap.size 4 n (fun i => .bool (R2 i)) ∧ wr.ownsRow (w.heap.size + 1) 3 1 (.slice (some ⟨g2, 0, none⟩) zs.length cap2) zs.length (zs.map fun (x : Nat) => Value.int .i64 (x : Int)) ∧ RInv n sI av R2 zs x 2 ∧ Below w.heap.size w wr ∧ 2 * (n - cb R2 n) + zs.length + 1 ≤ gk) := ⟨hrow, hown, hinv, hbel, hm⟩
          clear hrow hown hinv hbel hm
          go_wp2
          go_roundg (2 * (n - cb R2 n) + zs.length)
          case measure => obtain ⟨_, _, _, _, hm⟩ := A.out; omega
          case rel =>
            obtain ⟨hrow, hown, hinv, hbel, hm⟩ := A.out
            exact ⟨R2, zs, g2, cap2, x, rfl, hrow, hown, hinv, hbel, Nat.le_refl _, by omega⟩
        · have hd1 : d < 2 := by omega
          have hdi : (d : Int) < 2 := by omega
          have hz := hsI (2 * x + d) (by omega)
          obtain ⟨z, ez⟩ : ∃ z, z = sI (2 * x + d) := ⟨_, rfl⟩
          rw [← ez] at hz
          have hidx : ∀ w : World, (Instr.index 76 (.agg #[.int .i64 (sI (2 * x)), .int .i64 (sI (2 * x + 1))]) (.int .i64 (d : Int))).run Yba.prog w = .ok (.int .i64 z) w := by
            rcases (show d = 0 ∨ d = 1 by omega) with e | e
            · subst e; rw [ez]; exact fun _ => by kernel_rfl
            · subst e; rw [ez]; exact fun _ => by kernel_rfl
          have EZ : Hid (sI (2 * x + d) = z) := ez.symm
          clear ez
          by_cases hzn : z < 0
          · have A : Aside (wr.rowIs w.heap.size 4 n (fun i => .bool (R2 i)) ∧ wr.ownsRow (w.heap.size + 1) 3 1 (.slice (some ⟨g2, 0, none⟩) zs.length cap2) zs.length (zs.map fun (x : Nat) => Value.int .i64 (x : Int)) ∧ RInv n sI av R2 zs x d ∧ Below w.heap.size w wr ∧ 2 * (n - cb R2 n) + zs.length + 1 ≤ gk) := ⟨hrow, hown, hinv, hbel, hm⟩
            clear hrow hown hinv hbel hm
            go_wp2
            go_roundg (2 - (d + 1))
            case measure => omega
            case rel =>
              obtain ⟨hrow, hown, hinv, hbel, hm⟩ := A.out
              exact ⟨d + 1, R2, zs, g2, cap2, by omega, rfl, by go_num, rfl, hrow, hown, hinv.skip hd1 (fun y hy => by have := EZ.out; omega), hrx2, hbel, hm⟩
          · obtain ⟨y, rfl⟩ : ∃ y : Nat, z = y := ⟨z.toNat, by omega⟩
            have hyn : y < n := by omega
            have hyi : (y : Int) < (n : Int) := by omega
            have cy := hrow.cell hyn
            have fy := hrow.frozen y
            by_cases hav : ((y : Int) == av) = true
            · have A : Aside (wr.rowIs w.heap.size 4 n (fun i => .bool (R2 i)) ∧ wr.ownsRow (w.heap.size + 1) 3 1 (.slice (some ⟨g2, 0, none⟩) zs.length cap2) zs.length (zs.map fun (x : Nat) => Value.int .i64 (x : Int)) ∧ RInv n sI av R2 zs x d ∧ Below w.heap.size w wr ∧ 2 * (n - cb R2 n) + zs.length + 1 ≤ gk ∧ (y : Int) = av) := ⟨hrow, hown, hinv, hbel, hm, by simpa using hav⟩
              have hav2 : ((y : Int) != av) = false := by simpa using hav
              clear hrow hown hinv hbel hm
              go_wp2
              go_roundg (2 - (d + 1))
              case measure => omega
              case rel =>
                obtain ⟨hrow, hown, hinv, hbel, hm, he⟩ := A.out
                exact ⟨d + 1, R2, zs, g2, cap2, by omega, rfl, by go_num, rfl, hrow, hown, hinv.skip hd1 (fun y' hy hne => by have := EZ.out; omega), hrx2, hbel, hm⟩
            · have hav' : ((y : Int) == av) = false := by simpa using hav
              have hne : (y : Int) ≠ av := by simpa using hav
              have hav2 : ((y : Int) != av) = true := by simpa using hav
              cases hry : R2 y with
              | true =>
                rw [hry] at cy
                have A : Aside (wr.rowIs w.heap.size 4 n (fun i => .bool (R2 i)) ∧ wr.ownsRow (w.heap.size + 1) 3 1 (.slice (some ⟨g2, 0, none⟩) zs.length cap2) zs.length (zs.map fun (x : Nat) => Value.int .i64 (x : Int)) ∧ RInv n sI av R2 zs x d ∧ Below w.heap.size w wr ∧ 2 * (n - cb R2 n) + zs.length + 1 ≤ gk ∧ R2 y = true) := ⟨hrow, hown, hinv, hbel, hm, hry⟩
                clear hrow hown hinv hbel hm hry hav hne
                go_wp2
                go_roundg (2 - (d + 1))
                case measure => omega
                case rel =>
                  obtain ⟨hrow, hown, hinv, hbel, hm, hry⟩ := A.out
                  exact ⟨d + 1, R2, zs, g2, cap2, by omega, rfl, by go_num, rfl, hrow, hown, hinv.skip hd1 (fun y' hy _ => by rw [show y' = y by have := EZ.out; omega]; exact hry), hrx2, hbel, hm⟩
              | false =>
                rw [hry] at cy
                have A : Aside (wr.rowIs w.heap.size 4 n (fun i => .bool (R2 i)) ∧ wr.ownsRow (w.heap.size + 1) 3 1 (.slice (some ⟨g2, 0, none⟩) zs.length cap2) zs.length (zs.map fun (x : Nat) => Value.int .i64 (x : Int)) ∧ RInv n sI av R2 zs x d ∧ Below w.heap.size w wr ∧ 2 * (n - cb R2 n) + zs.length + 1 ≤ gk ∧ R2 y = false ∧ (y : Int) ≠ av) := ⟨hrow, hown, hinv, hbel, hm, hry, hne⟩
                have hzl : zs.length ≤ 4 * n := by omega
                clear hrow hown hinv hbel hm hry hav hne
                obtain ⟨i, hi, hzz⟩ := Option.map_eq_some_iff.1 info3
                simp only [Prod.mk.injEq] at hzz
                obtain ⟨hz0, hz1, hz2⟩ := hzz
                have HI : Hid (Yba.prog.info? 3 = some i ∧ i.zero = some (.int .i64 0) ∧ i.size = 1 ∧ i.bytes = 8) := ⟨hi, hz0, hz1, hz2⟩
                clear hi hz0 hz1 hz2
                go_wp2_with (at_builtin; refine wpList_append_lies _ rfl (.tmp 62) (.tmp 64) 46 rfl (w.heap.size + 1) 3 i (.int .i64 0) 1 8 Yba.underlying46 HI.out.1 HI.out.2.1 HI.out.2.2.1 HI.out.2.2.2 rfl (by decide) (.slice (some ⟨g2, 0, none⟩) zs.length cap2) zs.length (zs.map fun (x : Nat) => Value.int .i64 (x : Int)) rfl ?a1 ⟨wr.heap.size, 0, none⟩ 1 1 [.int .i64 (y : Int)] rfl rfl ?a2 ?a3 (by decide) ?a4 ?a5 ?a6 _ rfl ?a7)
                case a1 =>
                  obtain ⟨hrow, hown, _⟩ := A.out
                  exact (ownsRow_setCell_below hown (by simp) _).alloc _
                case a3 => rfl
                case a4 => unfold maxLen; omega
                case a5 => omega
                case a6 =>
                  obtain ⟨_, _, _, hbel, _⟩ := A.out
                  exact hbel.size
                case a7 =>
                intro g3 cap3 w3 hown3 hgrow3 hat3 hlt3
                have A3 : Aside (w3.ownsRow (w.heap.size + 1) 3 1 (.slice (some ⟨g3, 0, none⟩) (zs.length + 1) cap3) (zs.length + 1) ((zs.map fun (x : Nat) => Value.int .i64 (x : Int)) ++ [.int .i64 (y : Int)]) ∧ ((wr.setCell ⟨w.heap.size, y, none⟩ (.bool true)).alloc (.cells #[.int .i64 (y : Int)] 3)).grownBy w3 (some g2)) := ⟨hown3, hgrow3⟩
                clear hown3 hgrow3 hat3 hlt3
                go_wp2
                go_roundg (2 - (d + 1))
                case measure => omega
                case rel =>
                  obtain ⟨hown3, hgrow3⟩ := A3.out
                  obtain ⟨hrow, hown, hinv, hbel, hm, hry, hne⟩ := A.out
                  have hg2 := (hown.lt g2 rfl)
                  have hlen : (zs ++ [y]).length = zs.length + 1 := by simp
                  have hcb := cb_upd (n := n) hyn hry
                  have hcn := cb_le (upd R2 y true) n
                  refine ⟨d + 1, upd R2 y true, zs ++ [y], g3, cap3, by omega, rfl, by go_num, by rw [hlen], ?_, ?_, hinv.push hxn hrx2 hd1 EZ.out hyn hne, ?_, ?_, by rw [hlen]; omega⟩
                  · refine (((hrow.set y (.bool true)).alloc _).of_block (hgrow3.block _ (by have := hrow.lt; simp; omega) (fun e => by injection e; omega))).congr (fun i hi => ?_)
                    unfold upd
                    by_cases c : i = y
                    · simp [c]
                    · simp [c]
                  · rw [hlen, List.map_append]
                    exact hown3
                  · by_cases c : x = y
                    · rw [c, upd_same]
                    · rw [upd_other _ _ c]; exact hrx2
                  · exact ((hbel.setCell (by simp) _).alloc (by have := hbel.size; simp; omega) _).grown hgrow3 (by have := hbel.size; simp; omega) (fun k hk => by injection hk; omega)

/-- what the reference's walk hands back: marks, in a new row, of what is reached past 'avoid' -/
theorem reach_any (n gs : Nat) (sI : Nat → Int) (av : Int) (w : World) (hn : n ≤ 4096) (hsI : ∀ e, e < 2 * n → -1 ≤ sI e ∧ sI e < n)
    (hs : ∀ e, e < 2 * n → w.cell? ⟨gs, e, none⟩ = some (.int .i64 (sI e))) :
    Calls Yba.prog 12 #[.int .i64 n, .slice (some ⟨gs, 0, none⟩) n n, .int .i64 av] w fun e w' => e = .returned (.slice (some ⟨w.heap.size, 0, none⟩) n n) ∧ (∃ R : Nat → Bool, w'.rowIs w.heap.size 4 n (fun i => .bool (R i)) ∧ ∀ i, i < n → (R i = true ↔ 0 ≠ av ∧ Rch (St n sI av) 0 i)) ∧ Below w.heap.size w w' := by
  by_cases h : n = 0 ∨ av = 0
  · refine (reach_none n gs av w hn h).mono ?_
    rintro e w' ⟨rfl, h1, h2⟩
    refine ⟨rfl, ⟨fun _ => false, h1, fun i hi => ⟨fun h => (by cases h), fun h3 => ?_⟩⟩, h2⟩
    rcases h with h | h
    · omega
    · exact absurd h.symm h3.1
  · refine (reach_some n gs sI av w hn (by omega) (fun e => h (.inr e)) hsI hs).mono ?_
    rintro e w' ⟨rfl, ⟨R, h1, h3⟩, h2⟩
    exact ⟨rfl, ⟨R, h1, fun i hi => ⟨fun h4 => ⟨fun e => h (.inr e.symm), (h3 i hi).1 h4⟩, fun h4 => (h3 i hi).2 h4.2⟩⟩, h2⟩
end Go.Proofs.Ybulkexnju.W
