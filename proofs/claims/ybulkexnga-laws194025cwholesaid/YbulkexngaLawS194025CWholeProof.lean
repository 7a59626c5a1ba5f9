/-
  A proof of 'Rows.LawS194025CWholeSaid': the frame is the given shell's; the contracts and the walks are filled in.
-/
import Derived.Test.YbulkexngaRows
import Derived.WalkKit
import Derived.ProofKit
import Derived.OpenShut
import Derived.ShutString
import Derived.ChangeOld
import Derived.Below
import Derived.WalkSpells
import Derived.WalkLawsBesides
import Derived.Deep.QuietTactic
import Derived.BigQuiet
import Derived.Laws.CopyOwn
import Derived.Deep.OwnRows
import Derived.LaidEql
namespace Go.Proofs.Ybulkexnga.lawS194025CWhole
open Go.ChangeShapes Go.WideShapes Go.ChangeAt Go.RowKit
open Go.ChangeMaps (open_string shut_string)
set_option linter.unusedVariables false

theorem own : ownKnob Yba.prog.godebug = none := by kernel_rfl
theorem laidOut : laidOutB Yba.prog = true := by kernel_rfl

/-- WHAT THE WALK IS TOLD OF A SLICE OF INTEGERS THAT CAME IN: it is nil; or it leads to a row of 'cap' cells, the numbers 'zs' (the first 'len' are its elements, the rest its spare room), each fitting its kind. -/
def IsRow (k : IntKind) (w : World) (a : Option Addr) (len cap : Nat) (zs : List Int) : Prop :=
  (a = none ∧ len = 0 ∧ cap = 0 ∧ zs = []) ∨
  ∃ x, a = some x ∧ len ≤ cap ∧ cap ≤ maxLen ∧ zs.length = cap ∧ (∀ i, i < zs.length → w.cell? (x.add i) = some (.int k (zs.getD i 0))) ∧ ∀ n ∈ zs, (Lit.int k n).wf = true

/-- two slices of no elements are alike -/
theorem eq_none (a b : Option Addr) (ca cb : Nat) (w : World) :
    Calls Yba.prog 6 #[.slice a 0 ca, .slice b 0 cb] w fun e w' => e = .returned (.bool true) ∧ ∃ n, w' = w.drewN n := by
  go_enter Yba.func6, Yba.ntmps6
  go_wp2
  go_loop [5] (fun i => i = .int .i64 0) (fun i => 0)
  case atStart => rfl
  case round =>
    subst hrel
    go_wp2
    go_ret
    exact ⟨rfl, 0, rfl⟩

set_option maxHeartbeats 400000 in
theorem eq_some (ba oa bb ob len ca cb : Nat) (zs : Nat → Int) (w : World) (hlen : len ≤ 9223372036854775807)
    (ha : ∀ i, i < len → w.cell? ⟨ba, oa + i, none⟩ = some (.int .u8 (zs i)))
    (hb : ∀ i, i < len → w.cell? ⟨bb, ob + i, none⟩ = some (.int .u8 (zs i))) :
    Calls Yba.prog 6 #[.slice (some ⟨ba, oa, none⟩) len ca, .slice (some ⟨bb, ob, none⟩) len cb] w fun e w' => e = .returned (.bool true) ∧ ∃ n, w' = w.drewN n := by
  go_enter Yba.func6, Yba.ntmps6
  go_wp2
  go_loopw [5] (fun i wr => ∃ k n : Nat, k ≤ len ∧ i = .int .i64 k ∧ wr = w.drewN n) (fun i _ => len - (intOf i).toNat)
  case atStart => exact ⟨0, 0, Nat.zero_le _, rfl, rfl⟩
  case round =>
    obtain ⟨k, n, hk, rfl, rfl⟩ := hrel
    by_cases hlt : k < len
    · have h1 := ha k hlt
      have h2 := hb k hlt
      have hi : (k : Int) < (len : Int) := by omega
      clear ha hb
      go_wp2
      go_quiet (fail)
      go_wp2
      go_roundw
      case rel => exact ⟨k + 1, n + nq, by omega, by go_num, rfl⟩
      case measure => simp [intOf]; omega
    · go_wp2
      go_ret
      exact ⟨rfl, n, rfl⟩

theorem new_any (t : ByteArray) (w : World) :
    Calls Yba.prog 4 #[.string t] w fun e w' => e = .returned (.iface 32 (.pointer (some ⟨w.heap.size, 0, none⟩))) ∧ w' = w.alloc (.cells #[.string t] 34) := by
  go_enter Yba.func4, Yba.ntmps4
  go_wp2
  go_ret
  exact ⟨rfl, rfl⟩

theorem oct_err (r : Nat) (n : Int) (sl p : Value) (t : TypeId) (w : World) (h0 : w.cell? ⟨r, 0, none⟩ = some sl) (h1 : w.cell? ⟨r, 1, none⟩ = some (.iface t p)) :
    Calls Yba.prog 5 #[.pointer (some ⟨r, 0, none⟩), .int .i64 n] w fun e w' => e = .returned (.slice none 0 0) ∧ w' = w := by
  go_enter Yba.func5, Yba.ntmps5
  go_wp2
  go_ret
  exact ⟨rfl, rfl⟩

theorem oct_short (r len cap : Nat) (n : Int) (a : Option Addr) (w : World) (h0 : w.cell? ⟨r, 0, none⟩ = some (.slice a len cap)) (h1 : w.cell? ⟨r, 1, none⟩ = some .nilIface) (hf : w.frozen? ⟨r, 1, none⟩ = false)
   (hr : r < w.heap.size) (hn : (len : Int) < n) :
    Calls Yba.prog 5 #[.pointer (some ⟨r, 0, none⟩), .int .i64 n] w fun e w' => e = .returned (.slice none 0 0) ∧ ∃ t, w' = (w.setCell ⟨r, 1, none⟩ (.iface 32 (.pointer (some ⟨w.heap.size, 0, none⟩)))).alloc (.cells #[.string t] 34) := by
  go_enter Yba.func5, Yba.ntmps5
  go_wp2_with (go_at_call 4; refine (new_any _ _).mono ?_; rintro e w' ⟨rfl, rfl⟩)
  go_ret
  exact ⟨rfl, _, rfl⟩

theorem oct_ok_nil (r : Nat) (w : World) (h0 : w.cell? ⟨r, 0, none⟩ = some (.slice none 0 0)) (h1 : w.cell? ⟨r, 1, none⟩ = some .nilIface) (hf : w.frozen? ⟨r, 0, none⟩ = false) :
    Calls Yba.prog 5 #[.pointer (some ⟨r, 0, none⟩), .int .i64 0] w fun e w' => e = .returned (.slice none 0 0) ∧ w' = w.setCell ⟨r, 0, none⟩ (.slice none 0 0) := by
  go_enter Yba.func5, Yba.ntmps5
  go_wp2
  go_ret
  exact ⟨rfl, rfl⟩

theorem oct_ok (r len b off : Nat) (n : Nat) (w : World) (h0 : w.cell? ⟨r, 0, none⟩ = some (.slice (some ⟨b, off, none⟩) len len)) (h1 : w.cell? ⟨r, 1, none⟩ = some .nilIface) (hf : w.frozen? ⟨r, 0, none⟩ = false)
   (hn : n ≤ len) (hlen : len ≤ 9223372036854775807) :
    Calls Yba.prog 5 #[.pointer (some ⟨r, 0, none⟩), .int .i64 n] w fun e w' => e = .returned (.slice (some ⟨b, off, none⟩) n n) ∧ ∃ o, (n < len → o = off + n) ∧ w' = w.setCell ⟨r, 0, none⟩ (.slice (some ⟨b, o, none⟩) (len - n) (len - n)) := by
  by_cases he : len = n
  · subst he
    go_enter Yba.func5, Yba.ntmps5
    go_wp2
    go_ret
    exact ⟨rfl, _, fun h => absurd h (by omega), by simp; rfl⟩
  · go_enter Yba.func5, Yba.ntmps5
    go_wp2
    go_ret
    exact ⟨rfl, _, fun _ => rfl, rfl⟩

theorem walk_long (a0 : Option Addr) (len0 cap0 : Nat) (a1 : Bool) (a2 : Int) (w : World) (h : 1048576 < len0) (hl : len0 ≤ 9223372036854775807) :
    Calls Yba.prog 3 #[.slice a0 len0 cap0, .bool a1, .int .i64 a2] w fun e w' => e = .returned (.bool true) ∧ Below w.heap.size w w' := by
  go_enter Yba.func3, Yba.ntmps3
  go_wp2
  go_ret
  exact ⟨rfl, Below.refl _ _⟩

theorem walk_neg (a0 : Option Addr) (len0 cap0 : Nat) (a2 : Int) (w : World) (h : ¬ 1048576 < len0) (hn : a2 < 0) :
    Calls Yba.prog 3 #[.slice a0 len0 cap0, .bool false, .int .i64 a2] w fun e w' => e = .returned (.bool true) ∧ Below w.heap.size w w' := by
  go_enter Yba.func3, Yba.ntmps3
  go_wp2
  go_ret
  exact ⟨rfl, Below.refl _ _⟩

theorem comp32 : (Yba.prog.info? 32).map (fun i => i.comparable) = some true := by kernel_rfl
theorem info34 : (Yba.prog.info? 34).map (fun i => i.size) = some 1 := by kernel_rfl
theorem same_ptr (a : Addr) (w : World) : Sem.run Yba.prog (binOp BinOp.eql 24 (Value.iface 32 (Value.pointer (some a))) (Value.iface 32 (Value.pointer (some a)))) w = .ok (.bool true) w := by
  obtain ⟨i, hi, hc⟩ := Option.map_eq_some_iff.1 comp32
  obtain ⟨j, hj, _⟩ := Option.map_eq_some_iff.1 info34
  exact run_eql_iface_ptr_same w a Yba.underlying24 Yba.underlying32 hi hc hj

theorem walk_nil_err (a2 : Int) (w : World) :
    Calls Yba.prog 3 #[.slice none 0 0, .bool true, .int .i64 a2] w fun e w' => e = .returned (.bool true) ∧ Below w.heap.size w w' := by
  have hq := fun (a : Option Addr) (n c n' c' : Nat) (w : World) => run_neq_slice_nil_any (P := Yba.prog) w 22 5 a n c n' c' Yba.underlying22
  have hq' := fun (a : Option Addr) (n c n' c' : Nat) (w : World) => Lib.run_eql_slice_nil (P := Yba.prog) w 22 5 a n c n' c' Yba.underlying22
  have hp := same_ptr
  go_enter Yba.func3, Yba.ntmps3
  go_wp2_with (go_at_call 4; refine (new_any _ _).mono ?_; rintro e w' ⟨rfl, rfl⟩)
  refine (oct_err (w.heap.size+1) a2 (.slice none 0 0) (.pointer (some ⟨w.heap.size,0,none⟩)) 32 _ (by go_simp) (by go_simp)).mono ?_
  rintro e w' ⟨rfl, rfl⟩
  go_wp2_with (go_at_call 6; refine (eq_none _ _ _ _ _).mono ?_; rintro e w' ⟨rfl, nd, rfl⟩)
  go_ret
  exact ⟨rfl, by repeat (first | exact Below.refl _ _ | apply below_drewN | refine Below.alloc ?_ (by simp) _)⟩

theorem walk_nil_short (a2 : Int) (w : World) (h : 0 < a2) :
    Calls Yba.prog 3 #[.slice none 0 0, .bool false, .int .i64 a2] w fun e w' => e = .returned (.bool true) ∧ Below w.heap.size w w' := by
  have hq := fun (a : Option Addr) (n c n' c' : Nat) (w : World) => run_neq_slice_nil_any (P := Yba.prog) w 22 5 a n c n' c' Yba.underlying22
  have hq' := fun (a : Option Addr) (n c n' c' : Nat) (w : World) => Lib.run_eql_slice_nil (P := Yba.prog) w 22 5 a n c n' c' Yba.underlying22
  go_enter Yba.func3, Yba.ntmps3
  go_wp2_with fail
  refine (oct_short w.heap.size 0 0 a2 none _ (by go_simp) (by go_simp) (by go_simp) (by simp) (by omega)).mono ?_
  rintro e w' ⟨rfl, t, rfl⟩
  go_wp2_with (go_at_call 6; refine (eq_none _ _ _ _ _).mono ?_; rintro e w' ⟨rfl, nd, rfl⟩)
  go_ret
  exact ⟨rfl, by repeat (first | exact Below.refl _ _ | apply below_drewN | refine Below.alloc ?_ (by simp) _)⟩

/-- a callee that only draws, met behind a count of draws -/
theorem quiet_of2 {P : Program} {f : FuncId} {args : Array Value} {w : World} {n0 n : Nat} {v : Value}
    (h : Calls P f args (w.drewN (n0 + n)) fun e w' => e = .returned v ∧ ∃ m, w' = (w.drewN (n0 + n)).drewN m) : Calls P f args (w.drewN (n0 + n)) fun e w'' => e = .returned v ∧ ∃ m, w'' = w.drewN (n0 + m) :=
  h.mono fun _ _ ⟨he, m, hm⟩ => ⟨he, n + m, by rw [hm, World.drewN_drewN, Nat.add_assoc]⟩

set_option maxHeartbeats 400000 in
theorem walk_nil_ok (w : World) :
    Calls Yba.prog 3 #[.slice none 0 0, .bool false, .int .i64 0] w fun e w' => e = .returned (.bool true) ∧ Below w.heap.size w w' := by
  have hq := fun (a : Option Addr) (n c n' c' : Nat) (w : World) => run_neq_slice_nil_any (P := Yba.prog) w 22 5 a n c n' c' Yba.underlying22
  have hq' := fun (a : Option Addr) (n c n' c' : Nat) (w : World) => Lib.run_eql_slice_nil (P := Yba.prog) w 22 5 a n c n' c' Yba.underlying22
  go_enter Yba.func3, Yba.ntmps3
  go_wp2_with fail
  refine (oct_ok_nil w.heap.size _ (by go_simp) (by go_simp) (by go_simp)).mono ?_
  rintro e w' ⟨rfl, rfl⟩
  go_wp2_with (go_at_call 6; refine (eq_none _ _ _ _ _).mono ?_; rintro e w' ⟨rfl, nd, rfl⟩)
  go_quiet ((go_at_call 6; exact quiet_of2 (eq_none _ _ _ _ _)))
  go_wp2
  go_ret
  exact ⟨rfl, by repeat (first | exact Below.refl _ _ | apply below_drewN | refine Below.alloc ?_ (by simp) _)⟩

/-- the first 'len' elements of two slices are there, and the same -/
def Same (W : World) (a b : Option Addr) (len : Nat) : Prop :=
  0 < len → ∃ ba oa bb ob, ∃ zs : Nat → Int, a = some ⟨ba, oa, none⟩ ∧ b = some ⟨bb, ob, none⟩ ∧ (∀ i, i < len → W.cell? ⟨ba, oa + i, none⟩ = some (.int .u8 (zs i))) ∧ (∀ i, i < len → W.cell? ⟨bb, ob + i, none⟩ = some (.int .u8 (zs i)))

theorem eq_row (a b : Option Addr) (len ca cb : Nat) (w : World) (hlen : len ≤ 9223372036854775807) (h : Same w a b len) :
    Calls Yba.prog 6 #[.slice a len ca, .slice b len cb] w fun e w' => e = .returned (.bool true) ∧ ∃ n, w' = w.drewN n := by
  by_cases h0 : 0 < len
  · obtain ⟨ba, oa, bb, ob, zs, rfl, rfl, h1, h2⟩ := h h0
    exact eq_some ba oa bb ob len ca cb zs w hlen h1 h2
  · obtain rfl : len = 0 := by omega
    exact eq_none a b ca cb w

theorem Same.drewN {W : World} {a b : Option Addr} {len : Nat} (h : Same W a b len) (n : Nat) : Same (W.drewN n) a b len := h

/-- the first 'len' numbers, as a row's cells (a definition of its own, so that the walk leaves it standing) -/
def rowOf (zs : List Int) (len : Nat) : List Value := (zs.take len).map (Value.int .u8)
theorem length_rowOf (zs : List Int) (len : Nat) (h : len ≤ zs.length) : (rowOf zs len).length = len := by simp [rowOf]; omega
theorem rowOf_at (zs : List Int) (len j : Nat) (h : len ≤ zs.length) (hj : j < len) : (rowOf zs len)[j]? = some (.int .u8 (zs.getD j 0)) := by
  have hj' : j < zs.length := by omega
  simp [rowOf, hj, hj']

/-- behind the copy: the new row 'g' reads as the slice at 'x' does, in whatever world keeps both -/
structure Copied (w2 : World) (g len : Nat) (x : Addr) : Prop where
  pre : ∀ W, Below w2.heap.size w2 W → ∀ n, n ≤ len → Same W (some ⟨g, 0, none⟩) (some x) n
  post : ∀ W, Below w2.heap.size w2 W → ∀ n, n < len → ∀ o, (n < len → o = 0 + n) → Same W (some ⟨g, o, none⟩) (some (x.add n)) (len - n)

theorem copied (w w2 : World) (len : Nat) (x : Addr) (zs : List Int) (hl : len ≤ zs.length)
    (hz : ∀ i, i < zs.length → w.cell? (x.add i) = some (.int .u8 (zs.getD i 0)))
    (hb : Below w.heap.size w w2) (hr : w2.heap[w.heap.size]? = some (.cells (splice (List.replicate len (.int .u8 0)) 0 (rowOf zs len)).toArray 5 (0, 0))) : Copied w2 w.heap.size len x := by
  have e : splice (List.replicate len (Value.int .u8 0)) 0 (rowOf zs len) = rowOf zs len := by
    simp [splice, length_rowOf zs len hl]
  rw [e] at hr
  have hg : ∀ W, Below w2.heap.size w2 W → ∀ i, i < len → W.cell? ⟨w.heap.size, i, none⟩ = some (.int .u8 (zs.getD i 0)) := by
    intro W hW i hi
    have hlt : w.heap.size < w2.heap.size := by
      rcases Nat.lt_or_ge w.heap.size w2.heap.size with h | h
      · exact h
      · rw [Array.getElem?_eq_none h] at hr; cases hr
    rw [hW.cell hlt]
    simp [World.cell?, hr, rowOf_at zs len i hl hi]
  have hx : ∀ W, Below w2.heap.size w2 W → ∀ i, i < zs.length → W.cell? (x.add i) = some (.int .u8 (zs.getD i 0)) := by
    intro W hW i hi
    have h1 := hz i hi
    have hlt := World.block_lt_of_cell? w _ h1
    rw [hW.cell (Nat.lt_of_lt_of_le hlt hb.size), hb.cell hlt]
    exact h1
  refine ⟨fun W hW n hn h0 => ?_, fun W hW n hn o ho h0 => ?_⟩
  · obtain ⟨b, off, rfl, hc⟩ := ints_at (hx W hW) (by omega)
    exact ⟨_, _, _, _, fun i => zs.getD i 0, rfl, rfl, fun i hi => by rw [Nat.zero_add]; exact hg W hW i (by omega), fun i hi => hc i (by omega)⟩
  · obtain ⟨b, off, rfl, hc⟩ := ints_at (hx W hW) (by omega)
    obtain rfl := ho hn
    refine ⟨_, _, b, off + n, fun i => zs.getD (n + i) 0, rfl, ?_, fun i hi => ?_, fun i hi => ?_⟩
    · rw [add_plain]
    · rw [Nat.zero_add]; exact hg W hW _ (by omega)
    · rw [Nat.add_assoc]; exact hc _ (by omega)

theorem made_row (w : World) (len : Nat) : (w.alloc (.cells (madeCells #[.int .u8 0] len) 5)).heap[w.heap.size]? = some (.cells (List.replicate len (.int .u8 0)).toArray 5 (0, 0)) := by
  rw [← toList_madeCells_one]
  show (w.heap.push _)[w.heap.size]? = _
  simp

theorem src_there (w : World) (len : Nat) (x : Addr) (zs : List Int) (hl : len ≤ zs.length)
    (hz : ∀ i, i < zs.length → w.cell? (x.add i) = some (.int .u8 (zs.getD i 0))) (o : Obj) :
    ∀ j v, (rowOf zs len)[j]? = some v → (w.alloc o).cell? (x.add j) = some v := by
  intro j v hv
  have hj : j < len := by
    have := (List.getElem?_eq_some_iff.1 hv).1
    rw [length_rowOf zs len hl] at this; omega
  have h1 := hz j (by omega)
  rw [((Below.refl w.heap.size w).alloc (Nat.le_refl _) o).cell (World.block_lt_of_cell? w _ h1), h1, ← hv]
  exact (rowOf_at zs len j hl hj).symm

theorem one_cells (l : List Int) (n : Nat) : ∀ v ∈ rowOf l n, v.oneCell' = true := by
  intro v hv
  obtain ⟨z, _, rfl⟩ := List.mem_map.1 hv
  rfl

set_option maxRecDepth 100000 in
theorem walk_some_err (len cap : Nat) (x : Addr) (zs : List Int) (a2 : Int) (w : World) (hlen : ¬ 1048576 < len) (hl : len ≤ cap) (hcap : zs.length = cap)
    (hz : ∀ i, i < zs.length → w.cell? (x.add i) = some (.int .u8 (zs.getD i 0))) :
    Calls Yba.prog 3 #[.slice (some x) len cap, .bool true, .int .i64 a2] w fun e w' => e = .returned (.bool true) ∧ Below w.heap.size w w' := by
  have hq := fun (a : Option Addr) (n c n' c' : Nat) (w : World) => run_neq_slice_nil_any (P := Yba.prog) w 22 5 a n c n' c' Yba.underlying22
  have hq' := fun (a : Option Addr) (n c n' c' : Nat) (w : World) => Lib.run_eql_slice_nil (P := Yba.prog) w 22 5 a n c n' c' Yba.underlying22
  have hp := same_ptr
  have hmk := run_make_row' (P := Yba.prog) 22 5 (.int .u8 0) 1 Yba.underlying22 (by kernel_rfl) (by kernel_rfl) .i64 .i64 len (by omega) (by omega)
  have Hc := fun w2 => copied w w2 len x zs (by omega) hz
  have HZ : Hid (∀ i, i < zs.length → w.cell? (x.add i) = some (.int .u8 (zs.getD i 0))) := hz
  clear hz
  go_enter Yba.func3, Yba.ntmps3
  go_wp2_with (first | (refine wpList_copy_splice rfl (.tmp 25) (.tmp 26) 22 22 rfl 5 Yba.underlying22 (by kernel_rfl) (some ⟨w.heap.size, 0, none⟩) (some x) len len len cap rfl rfl w.heap.size 0 (List.replicate len (.int .u8 0)) 5 ?c1 (rowOf zs len) ?c2 ?c3 ?c4 ?c5 w.heap.size w ?c6 ?c7 ?c8) | (go_at_call 4; refine (new_any _ _).mono ?_; rintro e w' ⟨rfl, rfl⟩))
  case c1 => exact made_row w len
  case c2 => rw [length_rowOf zs len (by omega)]; simp
  case c3 => intro _; exact src_there w len x zs (by omega) HZ.out _
  case c4 => rw [length_rowOf zs len (by omega)]; simp
  case c5 => exact one_cells _ _
  case c6 => exact (Below.refl _ _).alloc (Nat.le_refl _) _
  case c7 => exact Nat.le_refl _
  case c8 =>
  intro w2 hg2 hb2
  have hc := Hc w2 hb2 hg2.out
  have hg : w.heap.size < w2.heap.size := by
    rcases Nat.lt_or_ge w.heap.size w2.heap.size with h | h
    · exact h
    · have := hg2.out; rw [Array.getElem?_eq_none h] at this; cases this
  clear Hc HZ hg2 hmk
  go_wp2_with (go_at_call 4; refine (new_any _ _).mono ?_; rintro e w' ⟨rfl, rfl⟩)
  refine (oct_err (w2.heap.size+1) a2 (.slice (some ⟨w.heap.size, 0, none⟩) len len) (.pointer (some ⟨w2.heap.size,0,none⟩)) 32 _ (by go_simp) (by go_simp)).mono ?_
  rintro e w' ⟨rfl, rfl⟩
  go_wp2_with (go_at_call 6; refine (eq_row _ _ _ _ _ _ (by omega) (hc.pre _ (by exact (by repeat (first | exact Below.refl _ _ | apply below_drewN | refine Below.alloc ?_ (by simp) _))) _ (Nat.le_refl _))).mono ?_; rintro e w' ⟨rfl, nd, rfl⟩)
  go_ret
  exact ⟨rfl, by repeat (first | exact hb2 | apply below_drewN | refine Below.alloc ?_ (by first | omega | (simp; omega)) _)⟩
set_option maxRecDepth 100000 in
theorem walk_some_short (len cap : Nat) (x : Addr) (zs : List Int) (a2 : Int) (w : World) (hlen : ¬ 1048576 < len) (hl : len ≤ cap) (hcap : zs.length = cap)
    (hn : (len : Int) < a2)
    (hz : ∀ i, i < zs.length → w.cell? (x.add i) = some (.int .u8 (zs.getD i 0))) :
    Calls Yba.prog 3 #[.slice (some x) len cap, .bool false, .int .i64 a2] w fun e w' => e = .returned (.bool true) ∧ Below w.heap.size w w' := by
  have hq := fun (a : Option Addr) (n c n' c' : Nat) (w : World) => run_neq_slice_nil_any (P := Yba.prog) w 22 5 a n c n' c' Yba.underlying22
  have hq' := fun (a : Option Addr) (n c n' c' : Nat) (w : World) => Lib.run_eql_slice_nil (P := Yba.prog) w 22 5 a n c n' c' Yba.underlying22
  have hmk := run_make_row' (P := Yba.prog) 22 5 (.int .u8 0) 1 Yba.underlying22 (by kernel_rfl) (by kernel_rfl) .i64 .i64 len (by omega) (by omega)
  have Hc := fun w2 => copied w w2 len x zs (by omega) hz
  have HZ : Hid (∀ i, i < zs.length → w.cell? (x.add i) = some (.int .u8 (zs.getD i 0))) := hz
  clear hz
  go_enter Yba.func3, Yba.ntmps3
  go_wp2_with (first | (refine wpList_copy_splice rfl (.tmp 25) (.tmp 26) 22 22 rfl 5 Yba.underlying22 (by kernel_rfl) (some ⟨w.heap.size, 0, none⟩) (some x) len len len cap rfl rfl w.heap.size 0 (List.replicate len (.int .u8 0)) 5 ?c1 (rowOf zs len) ?c2 ?c3 ?c4 ?c5 w.heap.size w ?c6 ?c7 ?c8) | (go_at_call 4; refine (new_any _ _).mono ?_; rintro e w' ⟨rfl, rfl⟩))
  case c1 => exact made_row w len
  case c2 => rw [length_rowOf zs len (by omega)]; simp
  case c3 => intro _; exact src_there w len x zs (by omega) HZ.out _
  case c4 => rw [length_rowOf zs len (by omega)]; simp
  case c5 => exact one_cells _ _
  case c6 => exact (Below.refl _ _).alloc (Nat.le_refl _) _
  case c7 => exact Nat.le_refl _
  case c8 =>
  intro w2 hg2 hb2
  have hc := Hc w2 hb2 hg2.out
  have hg : w.heap.size < w2.heap.size := by
    rcases Nat.lt_or_ge w.heap.size w2.heap.size with h | h
    · exact h
    · have := hg2.out; rw [Array.getElem?_eq_none h] at this; cases this
  clear Hc HZ hg2 hmk
  go_wp2_with fail
  refine (oct_short w2.heap.size len len a2 (some ⟨w.heap.size, 0, none⟩) _ (by go_simp) (by go_simp) (by go_simp) (by simp) (by omega)).mono ?_
  rintro e w' ⟨rfl, t, rfl⟩
  go_wp2_with (go_at_call 6; refine (eq_row _ _ _ _ _ _ (by omega) (hc.pre _ (by exact (by repeat (first | exact Below.refl _ _ | apply below_drewN | refine Below.alloc ?_ (by simp) _ | refine Below.setCell ?_ (by simp) _))) _ (Nat.le_refl _))).mono ?_; rintro e w' ⟨rfl, nd, rfl⟩)
  go_ret
  exact ⟨rfl, by repeat (first | exact hb2 | apply below_drewN | refine Below.alloc ?_ (by first | omega | (simp; omega)) _ | refine Below.setCell ?_ (by first | omega | (simp; omega)) _)⟩

set_option maxRecDepth 100000 in
theorem walk_some_ok_lt (len cap : Nat) (x : Addr) (zs : List Int) (n : Nat) (w : World) (hlen : ¬ 1048576 < len) (hl : len ≤ cap) (hcap : zs.length = cap)
    (hn : n < len)
    (hz : ∀ i, i < zs.length → w.cell? (x.add i) = some (.int .u8 (zs.getD i 0))) :
    Calls Yba.prog 3 #[.slice (some x) len cap, .bool false, .int .i64 n] w fun e w' => e = .returned (.bool true) ∧ Below w.heap.size w w' := by
  have hq := fun (a : Option Addr) (n c n' c' : Nat) (w : World) => run_neq_slice_nil_any (P := Yba.prog) w 22 5 a n c n' c' Yba.underlying22
  have hq' := fun (a : Option Addr) (n c n' c' : Nat) (w : World) => Lib.run_eql_slice_nil (P := Yba.prog) w 22 5 a n c n' c' Yba.underlying22
  have hmk := run_make_row' (P := Yba.prog) 22 5 (.int .u8 0) 1 Yba.underlying22 (by kernel_rfl) (by kernel_rfl) .i64 .i64 len (by omega) (by omega)
  have Hc := fun w2 => copied w w2 len x zs (by omega) hz
  have HZ : Hid (∀ i, i < zs.length → w.cell? (x.add i) = some (.int .u8 (zs.getD i 0))) := hz
  clear hz
  go_enter Yba.func3, Yba.ntmps3
  go_wp2_with (first | (refine wpList_copy_splice rfl (.tmp 25) (.tmp 26) 22 22 rfl 5 Yba.underlying22 (by kernel_rfl) (some ⟨w.heap.size, 0, none⟩) (some x) len len len cap rfl rfl w.heap.size 0 (List.replicate len (.int .u8 0)) 5 ?c1 (rowOf zs len) ?c2 ?c3 ?c4 ?c5 w.heap.size w ?c6 ?c7 ?c8) | (go_at_call 4; refine (new_any _ _).mono ?_; rintro e w' ⟨rfl, rfl⟩))
  case c1 => exact made_row w len
  case c2 => rw [length_rowOf zs len (by omega)]; simp
  case c3 => intro _; exact src_there w len x zs (by omega) HZ.out _
  case c4 => rw [length_rowOf zs len (by omega)]; simp
  case c5 => exact one_cells _ _
  case c6 => exact (Below.refl _ _).alloc (Nat.le_refl _) _
  case c7 => exact Nat.le_refl _
  case c8 =>
  intro w2 hg2 hb2
  have hc := Hc w2 hb2 hg2.out
  have hg : w.heap.size < w2.heap.size := by
    rcases Nat.lt_or_ge w.heap.size w2.heap.size with h | h
    · exact h
    · have := hg2.out; rw [Array.getElem?_eq_none h] at this; cases this
  clear Hc HZ hg2 hmk
  go_wp2_with fail
  refine (oct_ok w2.heap.size len w.heap.size 0 n _ (by go_simp) (by go_simp) (by go_simp) (by omega) (by omega)).mono ?_
  rintro e w' ⟨rfl, o, ho, rfl⟩
  have HO : Hid (n < len → o = 0 + n) := ho
  clear ho
  have hnc : ¬ cap = n := by omega
  go_wp2_with (go_at_call 6; refine (eq_row _ _ _ _ _ _ (by omega) (hc.pre _ (by exact (by repeat (first | exact Below.refl _ _ | apply below_drewN | refine Below.alloc ?_ (by simp) _ | refine Below.setCell ?_ (by simp) _))) _ (Nat.le_refl _))).mono ?_; rintro e w' ⟨rfl, nd, rfl⟩)
  go_quiet ((first | (go_at_call_of 6 (Value.slice (some ⟨w.heap.size, 0, none⟩) n n); refine quiet_of2 (eq_row _ _ _ _ _ _ (by omega) (hc.pre _ ?_ _ (by omega))); exact (by repeat (first | exact Below.refl _ _ | apply below_drewN | refine Below.alloc ?_ (by simp) _ | refine Below.setCell ?_ (by simp) _))) | (go_at_call_of 6 (Value.slice (some ⟨w.heap.size, o, none⟩) (len - n) (len - n)); refine quiet_of2 (eq_row _ _ _ _ _ _ (by omega) (hc.post _ ?_ _ (by omega) _ HO.out)); exact (by repeat (first | exact Below.refl _ _ | apply below_drewN | refine Below.alloc ?_ (by simp) _ | refine Below.setCell ?_ (by simp) _)))))
  go_wp2
  go_ret
  exact ⟨rfl, by repeat (first | exact hb2 | apply below_drewN | refine Below.alloc ?_ (by first | omega | (simp; omega)) _ | refine Below.setCell ?_ (by first | omega | (simp; omega)) _)⟩

set_option maxRecDepth 100000 in
theorem walk_some_ok_eq (len cap : Nat) (x : Addr) (zs : List Int) (w : World) (hlen : ¬ 1048576 < len) (hl : len ≤ cap) (hcap : zs.length = cap)
    (hz : ∀ i, i < zs.length → w.cell? (x.add i) = some (.int .u8 (zs.getD i 0))) :
    Calls Yba.prog 3 #[.slice (some x) len cap, .bool false, .int .i64 len] w fun e w' => e = .returned (.bool true) ∧ Below w.heap.size w w' := by
  have hq := fun (a : Option Addr) (n c n' c' : Nat) (w : World) => run_neq_slice_nil_any (P := Yba.prog) w 22 5 a n c n' c' Yba.underlying22
  have hq' := fun (a : Option Addr) (n c n' c' : Nat) (w : World) => Lib.run_eql_slice_nil (P := Yba.prog) w 22 5 a n c n' c' Yba.underlying22
  have hmk := run_make_row' (P := Yba.prog) 22 5 (.int .u8 0) 1 Yba.underlying22 (by kernel_rfl) (by kernel_rfl) .i64 .i64 len (by omega) (by omega)
  have Hc := fun w2 => copied w w2 len x zs (by omega) hz
  have HZ : Hid (∀ i, i < zs.length → w.cell? (x.add i) = some (.int .u8 (zs.getD i 0))) := hz
  clear hz
  go_enter Yba.func3, Yba.ntmps3
  go_wp2_with (first | (refine wpList_copy_splice rfl (.tmp 25) (.tmp 26) 22 22 rfl 5 Yba.underlying22 (by kernel_rfl) (some ⟨w.heap.size, 0, none⟩) (some x) len len len cap rfl rfl w.heap.size 0 (List.replicate len (.int .u8 0)) 5 ?c1 (rowOf zs len) ?c2 ?c3 ?c4 ?c5 w.heap.size w ?c6 ?c7 ?c8) | (go_at_call 4; refine (new_any _ _).mono ?_; rintro e w' ⟨rfl, rfl⟩))
  case c1 => exact made_row w len
  case c2 => rw [length_rowOf zs len (by omega)]; simp
  case c3 => intro _; exact src_there w len x zs (by omega) HZ.out _
  case c4 => rw [length_rowOf zs len (by omega)]; simp
  case c5 => exact one_cells _ _
  case c6 => exact (Below.refl _ _).alloc (Nat.le_refl _) _
  case c7 => exact Nat.le_refl _
  case c8 =>
  intro w2 hg2 hb2
  have hc := Hc w2 hb2 hg2.out
  have hg : w.heap.size < w2.heap.size := by
    rcases Nat.lt_or_ge w.heap.size w2.heap.size with h | h
    · exact h
    · have := hg2.out; rw [Array.getElem?_eq_none h] at this; cases this
  clear Hc HZ hg2 hmk
  go_wp2_with fail
  refine (oct_ok w2.heap.size len w.heap.size 0 len _ (by go_simp) (by go_simp) (by go_simp) (by omega) (by omega)).mono ?_
  rintro e w' ⟨rfl, o, ho, rfl⟩
  clear ho
  go_wp2_with (go_at_call 6; refine (eq_row _ _ _ _ _ _ (by omega) (hc.pre _ (by exact (by repeat (first | exact Below.refl _ _ | apply below_drewN | refine Below.alloc ?_ (by simp) _ | refine Below.setCell ?_ (by simp) _))) _ (Nat.le_refl _))).mono ?_; rintro e w' ⟨rfl, nd, rfl⟩)
  by_cases hcl : cap = len
  all_goals
    go_quiet ((first | (go_at_call_of 6 (Value.slice (some ⟨w.heap.size, 0, none⟩) len len); refine quiet_of2 (eq_row _ _ _ _ _ _ (by omega) (hc.pre _ ?_ _ (by omega))); exact (by repeat (first | exact Below.refl _ _ | apply below_drewN | refine Below.alloc ?_ (by simp) _ | refine Below.setCell ?_ (by simp) _))) | (go_at_call 6; exact quiet_of2 (eq_none _ _ _ _ _))))
    go_wp2
    go_ret
    exact ⟨rfl, by repeat (first | exact hb2 | apply below_drewN | refine Below.alloc ?_ (by first | omega | (simp; omega)) _ | refine Below.setCell ?_ (by first | omega | (simp; omega)) _)⟩

/-! ### STEP 1: THE WALK: the Go text returns true, AND WRITES NOTHING THAT WAS THERE: 'Below w.heap.size w w'' (Derived/Below.lean: '.refl', '.alloc', '.drew', '.setCell' at a new block, '.trans'). Open each 'IsRow' by 'rcases' AHEAD of 'go_enter'; part every test ahead of the walk. -/
theorem walk (a0 : Option Addr) (len0 cap0 : Nat) (z0 : List Int) (a1 : Bool) (a2 : Int) (w : World) (w0 : IsRow .u8 w a0 len0 cap0 z0) (w2 : (Lit.int .i64 a2).wf = true) :
    Calls Yba.prog 3 #[.slice a0 len0 cap0, .bool a1, .int .i64 a2] w fun e w' => e = .returned (.bool true) ∧ Below w.heap.size w w' := by
  rcases w0 with ⟨rfl, rfl, rfl, rfl⟩ | ⟨x, rfl, hl, hm, hz, hcell, _⟩
  · cases a1
    · by_cases h1 : a2 < 0
      · exact walk_neg _ _ _ _ _ (by omega) h1
      · by_cases h2 : 0 < a2
        · exact walk_nil_short _ _ h2
        · obtain rfl : a2 = 0 := by omega
          exact walk_nil_ok _
    · exact walk_nil_err _ _
  · unfold maxLen at hm
    by_cases h0 : 1048576 < len0
    · exact walk_long _ _ _ _ _ _ h0 (by omega)
    · cases a1
      · by_cases h1 : a2 < 0
        · exact walk_neg _ _ _ _ _ h0 h1
        · by_cases h2 : (len0 : Int) < a2
          · exact walk_some_short len0 cap0 x z0 a2 w h0 hl hz h2 hcell
          · obtain ⟨n, rfl⟩ : ∃ n : Nat, a2 = n := ⟨a2.toNat, by omega⟩
            by_cases h3 : n = len0
            · subst h3
              exact walk_some_ok_eq n cap0 x z0 w h0 hl hz hcell
            · exact walk_some_ok_lt len0 cap0 x z0 n w h0 hl hz (by omega) hcell
      · exact walk_some_err len0 cap0 x z0 a2 w h0 hl hz hcell

/-! ### THE ROW's STEP: WRITTEN OUT: LEAVE IT -/
set_option maxRecDepth 100000 in
theorem lifted (os : Os) (started : os.Started) (H : Type) (enc : TypeId × Value → H) :
    ReturnsInHanded {} Yba.checked os 3 .any (Rows.lawS194025CWholeSpec.pre6 enc Yba.prog Yba.f3 Rows.lawS194025CWholeRow.domain false) (Rows.lawS194025CWholeSpec.post enc Yba.prog Yba.f3 false true false false) := by
  refine returnsInHanded_of_change (C := Yba.checked) own started (by kernel_rfl) Yba.func3
    (ChangeSpec.witness6 (enc := enc) (C := Yba.checked) false ⟨#[], #[.slice none 0 0, .bool false, .int .i64 0], []⟩ 8 (by kernel_rfl) (by kernel_rfl) (by kernel_rfl) (by kernel_rfl)) ?_
  intro W base args ds gs before hval0 hW hcnd _
  have hval : ∀ (j : Nat) t v, Yba.f3.params[j]? = some t → args[j]? = some v → Value.okWide Yba.prog W .any base t v := hval0
  have hW' := hW
  obtain ⟨p, q, hA0, hV, rfl, hfz, hnd⟩ := hW
  have hA : DataW.TrodAll enc Yba.prog W 0 (fun _ => true) true Yba.f3.params.toList args.toList ds p := hA0
  rw [Yba.params3] at hA hval
  obtain ⟨v0, vs0, d0, ds0, p0, q0, hargs, rfl, rfl, h0, r0⟩ := trodAll_cons hA
  obtain ⟨v1, vs1, d1, ds1, p1, q1, rfl, rfl, rfl, h1, r1⟩ := trodAll_cons r0
  obtain ⟨v2, vs2, d2, ds2, p2, q2, rfl, rfl, rfl, h2, r2⟩ := trodAll_cons r1
  obtain ⟨rfl, rfl, rfl⟩ := trodAll_nil r2
  obtain rfl : args = #[v0, v1, v2] := by cases args; simp_all
  obtain ⟨rfl, rfl⟩ := trodVars_none hV
  obtain ⟨a0, len0, cap0, rfl⟩ := okWide_slice Yba.underlying22 (hval 0 22 v0 rfl rfl)
  have k0 := h0
  have lt0 : ∀ x ∈ p0, x.block < W.heap.size := by obtain ⟨m, hm⟩ := k0; exact DataW.trod_lt m _ _ _ hm
  obtain ⟨z0, w0⟩ : ∃ zs, IsRow .u8 W a0 len0 cap0 zs := by
    obtain ⟨fuel, hf⟩ := h0
    rcases open_ints Yba.underlying22 Yba.underlying5 (by kernel_rfl) hf with ⟨hcs, _⟩ | ⟨x, l, c, zs, hcs, _, hl, hm, hz, _, hcell, hwz⟩
    · simp [Value.cells] at hcs
      obtain ⟨rfl, rfl, rfl⟩ := hcs
      exact ⟨[], .inl ⟨rfl, rfl, rfl, rfl⟩⟩
    · simp [Value.cells] at hcs
      obtain ⟨rfl, rfl, rfl⟩ := hcs
      exact ⟨zs, .inr ⟨_, rfl, hl, hm, by simpa using hz, hcell, hwz⟩⟩
  obtain ⟨a1, rfl, rfl, rfl⟩ := open_bool Yba.underlying4 (hval 1 4 v1 rfl rfl) h1
  obtain ⟨a2, rfl, rfl, rfl, w2⟩ := open_int Yba.underlying3 (hval 2 3 v2 rfl rfl) h2
  clear hA0 hval0
  refine (walk a0 len0 cap0 z0 a1 a2 W w0 w2).mono fun e W' ⟨he, bel⟩ => ?_
  subst he
  exact ⟨_, rfl, _, _, _, [], _, [], hW', trodAll_mk1 (shut_bool Yba.underlying4 _), (trodAll_cons_mk (Below.trod laidOut (by kernel_rfl) (of_decide_eq_true (by kernel_rfl)) k0 bel lt0) (trodAll_cons_mk (shut_bool Yba.underlying4 _) (trodAll_cons_mk (shut_int Yba.underlying3 w2) trodAll_mk0))), rfl, bel.frame _, fun h => by cases h⟩

theorem over : Rows.lawS194025CWholeRow.holds Yba.pinned (OpenSpec.ofChange Rows.lawS194025CWholeSpec) :=
  OpenClaim.holds_of_wide 3 Yba.f3 rfl rfl rfl rfl rfl rfl rfl ⟨rfl, rfl, rfl, rfl, rfl⟩ rfl rfl rfl rfl rfl (by kernel_rfl) Yba.func3 (by kernel_rfl)
    (of_decide_eq_true (by kernel_rfl)) (by unfold Func.isWrapper; first | (rw [if_pos (by decide +kernel)]; kernel_rfl) | (rw [if_neg (by decide +kernel)]; exact ⟨rfl, rfl⟩))
    (fun os started H enc _ => lifted os started H enc)

/-- ████ THE STATEMENT ████ -/
theorem proved : Rows.LawS194025CWholeSaid := over
end Go.Proofs.Ybulkexnga.lawS194025CWhole
