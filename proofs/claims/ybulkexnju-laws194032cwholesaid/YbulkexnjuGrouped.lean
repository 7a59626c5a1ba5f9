/-
  grouped: the indexes of keys by their keys.
-/
import Derived.Test.YbulkexnjuReach
import Derived.RegionTactic
import Derived.BigRegion
namespace Go.Proofs.Ybulkexnju.W
open Go.RowKit Go.Proofs.Ybulkexnju.G
set_option linter.unusedVariables false

/-- how many of the first m keys are k -/
def ck (ky : Nat → Int) (k m : Nat) : Nat := cb (fun j => decide (ky j = k)) m
/-- how many of the m keys are below k -/
def ps (ky : Nat → Int) (m : Nat) : Nat → Nat
  | 0 => 0
  | k + 1 => ps ky m k + ck ky k m

theorem ck_le (ky : Nat → Int) (k m : Nat) : ck ky k m ≤ m := cb_le _ m
theorem ck_mono (ky : Nat → Int) (k : Nat) {a b : Nat} (h : a ≤ b) : ck ky k a ≤ ck ky k b := cb_mono _ h
theorem ck_yes {ky : Nat → Int} {k j : Nat} (h : ky j = k) : ck ky k (j + 1) = ck ky k j + 1 := cb_yes (by simpa using h)
theorem ck_no {ky : Nat → Int} {k j : Nat} (h : ky j ≠ k) : ck ky k (j + 1) = ck ky k j := cb_no (by simpa using h)
theorem ck_lt {ky : Nat → Int} {k j m : Nat} (h : ky j = k) (hj : j < m) : ck ky k j < ck ky k m := cb_lt (P := fun j => decide (ky j = k)) (by simpa using h) hj

theorem ps_eq (ky : Nat → Int) (m k : Nat) : ps ky m k = cb (fun j => decide (0 ≤ ky j ∧ ky j < k)) m := by
  induction k with
  | zero =>
    induction m with
    | zero => rfl
    | succ m ih => rw [cb_no (by simp), ← ih]; rfl
  | succ k ih =>
    have : ∀ m, cb (fun j => decide (0 ≤ ky j ∧ ky j < ((k + 1 : Nat) : Int))) m = cb (fun j => decide (0 ≤ ky j ∧ ky j < (k : Int))) m + ck ky k m := by
      intro m
      unfold ck
      induction m with
      | zero => rfl
      | succ m ihm =>
        simp only [cb]
        rw [ihm]
        by_cases c1 : ky m = k
        · rw [if_pos (by simp; omega), if_neg (by simp; omega), if_pos (by simpa using c1)]; omega
        · by_cases c2 : 0 ≤ ky m ∧ ky m < (k : Int)
          · rw [if_pos (by simp; omega), if_pos (by simpa using c2), if_neg (by simpa using c1)]; omega
          · rw [if_neg (by simp; omega), if_neg (by simp; omega), if_neg (by simpa using c1)]; omega
    show ps ky m k + ck ky k m = _
    rw [ih, this m]

theorem ps_le (ky : Nat → Int) (m k : Nat) : ps ky m k ≤ m := by rw [ps_eq]; exact cb_le _ m

theorem ps_mono (ky : Nat → Int) (m : Nat) {a b : Nat} (h : a ≤ b) : ps ky m a ≤ ps ky m b := by
  induction b with
  | zero => obtain rfl : a = 0 := by omega
            exact Nat.le_refl _
  | succ b ih =>
    by_cases e : a = b + 1
    · rw [e]; exact Nat.le_refl _
    · have := ih (by omega)
      show _ ≤ ps ky m b + ck ky b m
      omega

/-- the places of two indexes part -/
theorem place_ne {ky : Nat → Int} {m k k' j j' : Nat} (hj : j < m) (hj' : j' < m) (h : ky j = k) (h' : ky j' = k') (hne : j ≠ j') : ps ky m k + ck ky k j ≠ ps ky m k' + ck ky k' j' := by
  have h1 := ck_lt h hj
  have h2 := ck_lt h' hj'
  intro e
  rcases Nat.lt_trichotomy k k' with c | c | c
  · have := ps_mono ky m (show k + 1 ≤ k' by omega)
    have e2 : ps ky m (k + 1) = ps ky m k + ck ky k m := rfl
    omega
  · subst c
    have := cb_inj (P := fun j => decide (ky j = k)) (by simpa using h) (by simpa using h') (show cb _ j = cb _ j' by unfold ck at e; omega)
    exact hne this
  · have := ps_mono ky m (show k' + 1 ≤ k by omega)
    have e2 : ps ky m (k' + 1) = ps ky m k' + ck ky k' m := rfl
    omega

/-- what grouped hands back: 'fst k' is where the indexes with key k begin, 'at' holds them -/
structure Grp (n m : Nat) (ky : Nat → Int) (fst at_ : Nat → Int) : Prop where
  fst : ∀ k, k ≤ n → fst k = ps ky m k
  at_ : ∀ j k : Nat, j < m → ky j = k → at_ (ps ky m k + ck ky k j) = j

theorem madeRow (w : World) (n : Nat) : (w.alloc (.cells (madeCells #[.int .i32 0] n) 21)).rowIs w.heap.size 21 n (fun _ => .int .i32 0) := World.rowIs_made w _ n 21

set_option maxHeartbeats 1000000 in
set_option maxRecDepth 100000 in
theorem grouped_any (n m gk ckp : Nat) (ky : Nat → Int) (w : World) (hn : n ≤ 8192) (hm : m ≤ 8192) (hky : ∀ j, j < m → -1 ≤ ky j ∧ ky j < n)
    (hk : ∀ j, j < m → w.cell? ⟨gk, j, none⟩ = some (.int .i32 (ky j))) :
    Calls Yba.prog 31 #[.int .i64 n, .slice (some ⟨gk, 0, none⟩) m ckp] w fun e w' => e = .returned (.tuple #[.slice (some ⟨w.heap.size, 0, none⟩) (n + 1) (n + 2), .slice (some ⟨w.heap.size + 1, 0, none⟩) (ps ky m n) (ps ky m n)]) ∧
      (∃ fst at_ : Nat → Int, w'.rowIs w.heap.size 21 (n + 2) (fun i => .int .i32 (fst i)) ∧ w'.rowIs (w.heap.size + 1) 21 (ps ky m n) (fun i => .int .i32 (at_ i)) ∧ Grp n m ky fst at_) ∧ Below w.heap.size w w' := by
  have hmk := run_make_row' (P := Yba.prog) 57 21 (.int .i32 0) 4 Yba.underlying57 (by kernel_rfl) (by kernel_rfl) .i64 .i64 (n + 2) (by omega) (by omega)
  rw [show (((n + 2 : Nat)) : Int) = (n : Int) + 2 by omega] at hmk
  have HR : Hid ((w.alloc (.cells (madeCells #[.int .i32 0] (n + 2)) 21)).rowIs w.heap.size 21 (n + 2) (fun _ => .int .i32 0)) := madeRow w (n + 2)
  go_enter Yba.func31, Yba.ntmps31
  go_wp2
  go_loopg [16] m (fun g s16 wr => ∃ j, j ≤ m ∧ g = m - j ∧ s16 = .int .i64 j ∧ wr.rowIs w.heap.size 21 (n + 2) (fun x => .int .i32 (if x < 2 then 0 else (ck ky (x - 2) j : Int))) ∧ Below w.heap.size w wr ∧ wr.heap.size = w.heap.size + 1)
  case atStart =>
    refine ⟨0, by omega, rfl, rfl, HR.out.congr (fun i _ => ?_), (Below.refl _ _).alloc (Nat.le_refl _) _, by simp⟩
    by_cases c : i < 2
    · rw [if_pos c]
    · rw [if_neg c]; rfl
  case round =>
    obtain ⟨j, hj, rfl, rfl, hrow, hbel, hsz⟩ := hrel
    by_cases hlt : j < m
    · have hji : (j : Int) < (m : Int) := by omega
      have hkj := hky j hlt
      have c1 := cell_later hbel (hk j hlt)
      by_cases hneg : ky j < 0
      · have A : Aside (wr.rowIs w.heap.size 21 (n + 2) (fun x => .int .i32 (if x < 2 then 0 else (ck ky (x - 2) j : Int))) ∧ Below w.heap.size w wr) := ⟨hrow, hbel⟩
        clear hrow hbel hk
        go_wp2
        go_roundg (m - (j + 1))
        case measure => omega
        case rel =>
          obtain ⟨hrow, hbel⟩ := A.out
          refine ⟨j + 1, by omega, rfl, by go_num, hrow.congr (fun i _ => ?_), hbel, hsz⟩
          rw [ck_no (show ky j ≠ ((i - 2 : Nat) : Int) by omega)]
      · obtain ⟨k, ek⟩ : ∃ k : Nat, ky j = k := ⟨(ky j).toNat, by omega⟩
        have hkn : k < n := by omega
        have c2 := hrow.cell (i := k + 2) (by omega)
        rw [if_neg (by omega), show k + 2 - 2 = k by omega] at c2
        have f2 := hrow.frozen (k + 2)
        have hle := ck_le ky k j
        have i1 : (k : Int) + 2 < (n : Int) + 2 := by omega
        rw [ek] at c1
        obtain ⟨q, eq⟩ : ∃ q, q = ck ky k j := ⟨_, rfl⟩
        rw [← eq] at c2 hle
        have A : Aside (wr.rowIs w.heap.size 21 (n + 2) (fun x => .int .i32 (if x < 2 then 0 else (ck ky (x - 2) j : Int))) ∧ Below w.heap.size w wr ∧ ky j = k ∧ q = ck ky k j) := ⟨hrow, hbel, ek, eq⟩
        clear hrow hbel hk hkj hneg ek eq
        go_wp2
        go_roundg (m - (j + 1))
        case measure => omega
        case rel =>
          obtain ⟨hrow, hbel, ek, eq⟩ := A.out
          refine ⟨j + 1, by omega, rfl, by go_num, (hrow.set (k + 2) _).congr (fun i _ => ?_), hbel.setCell (by simp) _, by simpa using hsz⟩
          by_cases c : i = k + 2
          · rw [if_pos c, if_neg (by omega), show i - 2 = k by omega, ck_yes ek, ← eq]; rfl
          · rw [if_neg c]
            by_cases c2 : i < 2
            · rw [if_pos c2, if_pos c2]
            · rw [if_neg c2, if_neg c2, ck_no (show ky j ≠ ((i - 2 : Nat) : Int) by omega)]
    · obtain rfl : j = m := by omega
      have A : Aside (wr.rowIs w.heap.size 21 (n + 2) (fun x => .int .i32 (if x < 2 then 0 else (ck ky (x - 2) j : Int))) ∧ Below w.heap.size w wr) := ⟨hrow, hbel⟩
      clear hrow hbel hmk HR
      go_wp2
      go_loopg [8] n (fun g s8 wr => ∃ k, k ≤ n ∧ g = n - k ∧ s8 = .int .i64 ((k : Int) + 2) ∧ wr.rowIs w.heap.size 21 (n + 2) (fun x => .int .i32 (if x < 2 then 0 else if x < k + 2 then (ps ky j (x - 1) : Int) else (ck ky (x - 2) j : Int))) ∧ Below w.heap.size w wr ∧ wr.heap.size = w.heap.size + 1)
      case atStart =>
        obtain ⟨hrow, hbel⟩ := A.out
        refine ⟨0, by omega, rfl, rfl, hrow.congr (fun i _ => ?_), hbel, hsz⟩
        by_cases c : i < 2
        · rw [if_pos c, if_pos c]
        · rw [if_neg c, if_neg c, if_neg (by omega)]
      case round =>
        clear A hsz
        obtain ⟨k, hkn, rfl, rfl, hrow, hbel, hsz⟩ := hrel
        by_cases hlt : k < n
        · have i1 : (k : Int) + 2 < (n : Int) + 2 := by omega
          have i2 : (k : Int) + 1 < (n : Int) + 2 := by omega
          have c1 := hrow.cell (i := k + 2) (by omega)
          have c2 := hrow.cell (i := k + 1) (by omega)
          have f1 := hrow.frozen (k + 2)
          rw [if_neg (by omega), if_neg (by omega), show k + 2 - 2 = k by omega] at c1
          have e2 : (if k + 1 < 2 then 0 else if k + 1 < k + 2 then (ps ky j (k + 1 - 1) : Int) else (ck ky (k + 1 - 2) j : Int)) = (ps ky j k : Int) := by
            by_cases c : k + 1 < 2
            · rw [if_pos c, show k = 0 by omega]; rfl
            · rw [if_neg c, if_pos (by omega), show k + 1 - 1 = k by omega]
          rw [e2] at c2
          have b1 := ck_le ky k j
          have b2 := ps_le ky j k
          obtain ⟨q1, e1⟩ : ∃ q, q = ck ky k j := ⟨_, rfl⟩
          obtain ⟨q2, e2⟩ : ∃ q, q = ps ky j k := ⟨_, rfl⟩
          rw [← e1] at c1 b1
          rw [← e2] at c2 b2
          have A : Aside (wr.rowIs w.heap.size 21 (n + 2) (fun x => .int .i32 (if x < 2 then 0 else if x < k + 2 then (ps ky j (x - 1) : Int) else (ck ky (x - 2) j : Int))) ∧ Below w.heap.size w wr ∧ q1 = ck ky k j ∧ q2 = ps ky j k) := ⟨hrow, hbel, e1, e2⟩
          clear hrow hbel e1 e2
          go_wp2
          go_region
          go_wp2
          go_roundg (n - (k + 1))
          case measure => omega
          case rel =>
            obtain ⟨hrow, hbel, e1, e2⟩ := A.out
            refine ⟨k + 1, by omega, rfl, by go_num, ((hrow.set (k + 2) _).congr (fun i _ => ?_)).drew, (hbel.setCell (by simp) _).drew, by simpa using hsz⟩
            by_cases c : i = k + 2
            · subst c
              rw [if_pos rfl, if_neg (by omega), if_pos (by omega), show k + 2 - 1 = k + 1 by omega, e1, e2]
              show Value.int .i32 ((ck ky k j : Int) + (ps ky j k : Int)) = Value.int .i32 ((ps ky j k + ck ky k j : Nat) : Int)
              congr 1
              omega
            · rw [if_neg c]
              by_cases c2 : i < 2
              · rw [if_pos c2, if_pos c2]
              · rw [if_neg c2, if_neg c2]
                by_cases c3 : i < k + 2
                · rw [if_pos c3, if_pos (by omega)]
                · rw [if_neg c3, if_neg (by omega)]
        · obtain rfl : k = n := by omega
          have hrow2 : wr.rowIs w.heap.size 21 (k + 2) (fun x => .int .i32 (if x = 0 then 0 else ((ps ky j (x - 1) + ck ky (x - 1) 0 : Nat) : Int))) := by
            refine hrow.congr (fun i hi => ?_)
            by_cases c : i < 2
            · rw [if_pos c]
              by_cases c2 : i = 0
              · rw [if_pos c2]
              · rw [if_neg c2, show i - 1 = 0 by omega]; rfl
            · rw [if_neg c, if_pos (by omega), if_neg (by omega)]; rfl
          have c1 := hrow2.cell (i := k + 1) (by omega)
          rw [if_neg (by omega), show k + 1 - 1 = k by omega, show ck ky k 0 = 0 from rfl, Nat.add_zero] at c1
          have b2 := ps_le ky j k
          have i1 : (k : Int) + 1 < (k : Int) + 2 := by omega
          obtain ⟨T, eT⟩ : ∃ T, T = ps ky j k := ⟨_, rfl⟩
          rw [← eT] at c1 b2
          have hmk2 := run_make_row' (P := Yba.prog) 57 21 (.int .i32 0) 4 Yba.underlying57 (by kernel_rfl) (by kernel_rfl) .i32 .i32 T (by omega) (by omega)
          have A : Aside (wr.rowIs w.heap.size 21 (k + 2) (fun x => .int .i32 (if x = 0 then 0 else ((ps ky j (x - 1) + ck ky (x - 1) 0 : Nat) : Int))) ∧ Below w.heap.size w wr ∧ T = ps ky j k) := ⟨hrow2, hbel, eT⟩
          clear hrow hrow2 hbel eT
          go_wp2
          go_loopg [55] j (fun g s55 wr => ∃ (q : Nat) (at_ : Nat → Int), q ≤ j ∧ g = j - q ∧ s55 = .int .i64 q ∧ wr.rowIs w.heap.size 21 (k + 2) (fun x => .int .i32 (if x = 0 then 0 else ((ps ky j (x - 1) + ck ky (x - 1) q : Nat) : Int))) ∧
            wr.rowIs (w.heap.size + 1) 21 T (fun x => .int .i32 (at_ x)) ∧ (∀ i k' : Nat, i < q → ky i = k' → at_ (ps ky j k' + ck ky k' i) = i) ∧ Below w.heap.size w wr)
          case atStart =>
            obtain ⟨hrow, hbel, eT⟩ := A.out
            refine ⟨0, fun _ => 0, by omega, rfl, rfl, hrow.alloc _, ?_, fun i k' hi => absurd hi (Nat.not_lt_zero _), hbel.alloc (by omega) _⟩
            have := madeRow wr T
            rw [hsz] at this
            exact this
          case round =>
            obtain ⟨hrow0, hbel0, eT⟩ := A.out
            clear A hrow0 hbel0 hsz c1 hmk2
            obtain ⟨q, at_, hq, rfl, rfl, hrow, hrow2, hat, hbel⟩ := hrel
            by_cases hlt : q < j
            · have hqi : (q : Int) < (j : Int) := by omega
              have hkq := hky q hlt
              have c1 := cell_later hbel (hk q hlt)
              by_cases hneg : ky q < 0
              · have A : Aside (wr.rowIs w.heap.size 21 (k + 2) (fun x => .int .i32 (if x = 0 then 0 else ((ps ky j (x - 1) + ck ky (x - 1) q : Nat) : Int))) ∧ wr.rowIs (w.heap.size + 1) 21 T (fun x => .int .i32 (at_ x)) ∧ (∀ i k' : Nat, i < q → ky i = k' → at_ (ps ky j k' + ck ky k' i) = i) ∧ Below w.heap.size w wr ∧ T = ps ky j k) := ⟨hrow, hrow2, hat, hbel, eT⟩
                clear hrow hrow2 hat hbel hk eT
                go_wp2
                go_roundg (j - (q + 1))
                case measure => omega
                case rel =>
                  obtain ⟨hrow, hrow2, hat, hbel, eT⟩ := A.out
                  refine ⟨q + 1, at_, by omega, rfl, by go_num, hrow.congr (fun i _ => ?_), hrow2, fun i k' hi e => hat i k' (by
                    by_cases c : i = q
                    · subst c; omega
                    · omega) e, hbel⟩
                  rw [ck_no (show ky q ≠ ((i - 1 : Nat) : Int) by omega)]
              · obtain ⟨y, ey⟩ : ∃ y : Nat, ky q = y := ⟨(ky q).toNat, by omega⟩
                have hyn : y < k := by omega
                have c2 := hrow.cell (i := y + 1) (by omega)
                rw [if_neg (by omega), show y + 1 - 1 = y by omega] at c2
                have f2 := hrow.frozen (y + 1)
                have hpl := ck_lt ey hlt
                have hps := ps_mono ky j (show y + 1 ≤ k by omega)
                have hps2 : ps ky j (y + 1) = ps ky j y + ck ky y j := rfl
                obtain ⟨z, ez⟩ : ∃ z, z = ps ky j y + ck ky y q := ⟨_, rfl⟩
                have hzT : z < T := by omega
                have hzi : (z : Int) < (T : Int) := by omega
                have c3 := hrow2.cell hzT
                have f3 := hrow2.frozen z
                have i1 : (y : Int) + 1 < (k : Int) + 2 := by omega
                rw [← ez] at c2
                rw [ey] at c1
                have A : Aside (wr.rowIs w.heap.size 21 (k + 2) (fun x => .int .i32 (if x = 0 then 0 else ((ps ky j (x - 1) + ck ky (x - 1) q : Nat) : Int))) ∧ wr.rowIs (w.heap.size + 1) 21 T (fun x => .int .i32 (at_ x)) ∧ (∀ i k' : Nat, i < q → ky i = k' → at_ (ps ky j k' + ck ky k' i) = i) ∧ Below w.heap.size w wr ∧ ky q = y ∧ z = ps ky j y + ck ky y q ∧ T = ps ky j k) := ⟨hrow, hrow2, hat, hbel, ey, ez, eT⟩
                clear hrow hrow2 hat hbel ey ez hpl hps hps2 hk hneg hkq eT
                go_wp2
                go_roundg (j - (q + 1))
                case measure => omega
                case rel =>
                  obtain ⟨hrow, hrow2, hat, hbel, ey, ez, eT⟩ := A.out
                  refine ⟨q + 1, upd at_ z q, by omega, rfl, by go_num, (((hrow.setOther (by simp) _).set (y + 1) _).congr (fun i _ => ?_)), (((hrow2.set z _).setOther (by simp) _).congr (fun i _ => ?_)), fun i k' hi e => ?_, (hbel.setCell (by simp) _).setCell (by simp) _⟩
                  · by_cases c : i = y + 1
                    · subst c
                      rw [if_pos rfl, if_neg (by omega), show y + 1 - 1 = y by omega, ck_yes ey, ez]
                      congr 1
                    · rw [if_neg c]
                      by_cases c2 : i = 0
                      · rw [if_pos c2, if_pos c2]
                      · rw [if_neg c2, if_neg c2, ck_no (show ky q ≠ ((i - 1 : Nat) : Int) by omega)]
                  · unfold upd
                    by_cases c : i = z
                    · rw [if_pos c, if_pos c]
                    · rw [if_neg c, if_neg c]
                  · by_cases c : i = q
                    · subst c
                      obtain rfl : k' = y := by omega
                      rw [← ez, upd_same]
                    · rw [upd_other _ _ (by rw [ez]; exact place_ne (by omega) hlt e ey c)]
                      exact hat i k' (by omega) e
            · obtain rfl : q = j := by omega
              have A : Aside (wr.rowIs w.heap.size 21 (k + 2) (fun x => .int .i32 (if x = 0 then 0 else ((ps ky q (x - 1) + ck ky (x - 1) q : Nat) : Int))) ∧ wr.rowIs (w.heap.size + 1) 21 T (fun x => .int .i32 (at_ x)) ∧ (∀ i k' : Nat, i < q → ky i = k' → at_ (ps ky q k' + ck ky k' i) = i) ∧ Below w.heap.size w wr) := ⟨hrow, hrow2, hat, hbel⟩
              clear hrow hrow2 hat hbel
              go_wp2
              go_ret2
              obtain ⟨hrow, hrow2, hat, hbel⟩ := A.out
              refine ⟨by rw [← eT]; rfl, ⟨_, at_, hrow, by rw [← eT]; exact hrow2, ⟨fun x hx => ?_, hat⟩⟩, hbel⟩
              by_cases c : x = 0
              · rw [if_pos c, c]; rfl
              · rw [if_neg c]
                have e : ps ky q (x - 1 + 1) = ps ky q (x - 1) + ck ky (x - 1) q := rfl
                rw [show x - 1 + 1 = x by omega] at e
                rw [e]

/-- the indexes with key k: each place of k's range holds one, and each is held -/
theorem Grp.mem {n m : Nat} {ky fst at_ : Nat → Int} (h : Grp n m ky fst at_) {k i : Nat} (h1 : ps ky m k ≤ i) (h2 : i < ps ky m (k + 1)) : ∃ j : Nat, j < m ∧ ky j = k ∧ at_ i = j ∧ i = ps ky m k + ck ky k j := by
  have e : ps ky m (k + 1) = ps ky m k + ck ky k m := rfl
  obtain ⟨j, j1, j2, j3⟩ := cb_surj (fun j => decide (ky j = k)) (m := m) (i := i - ps ky m k) (by unfold ck at e; omega)
  have j2' : ky j = k := by simpa using j2
  have e2 : i = ps ky m k + ck ky k j := by unfold ck; omega
  exact ⟨j, j1, j2', by rw [e2]; exact h.at_ j k j1 j2', e2⟩
end Go.Proofs.Ybulkexnju.W
