/-
  WALKS: binary.LittleEndian.Uint32, operand, and the four closures of watchedVars, over what they have captured.
-/
import Derived.Test.YbulkexnjuRows
import Derived.Test.YbulkexnjuSpec
import Derived.WalkKit
import Derived.ProofKit
import Derived.OpenShut
import Derived.WalkSpells
import Derived.WalkLawsBesides
import Derived.Deep.QuietTactic
import Derived.BigQuiet
import Derived.Deep.RegionHeld3
import Derived.Deep.OwnRows
import Derived.Deep.AppendLies
import Derived.Lib.EndianBits
namespace Go.Proofs.Ybulkexnju.W
open Go.RowKit Go.Proofs.Ybulkexnju.G
set_option linter.unusedVariables false

theorem w64 (n : Int) (h0 : -9223372036854775808 ≤ n) (h1 : n ≤ 9223372036854775807) : IntKind.i64.wrap n = n := by rw [IntKind.wrap_i64]; omega
theorem w32 (n : Int) (h0 : -2147483648 ≤ n) (h1 : n ≤ 2147483647) : IntKind.i32.wrap n = n := by rw [IntKind.wrap_i32]; omega

set_option maxRecDepth 100000 in
theorem uint32_any (b off len cap : Nat) (z0 z1 z2 z3 : Int) (w : World) (h4 : 4 ≤ len) (hl : len ≤ 9223372036854775807)
    (h0 : w.cell? ⟨b, off, none⟩ = some (.int .u8 z0)) (h1 : w.cell? ⟨b, off + 1, none⟩ = some (.int .u8 z1)) (h2 : w.cell? ⟨b, off + 2, none⟩ = some (.int .u8 z2)) (h3 : w.cell? ⟨b, off + 3, none⟩ = some (.int .u8 z3))
    (q0 : 0 ≤ z0 ∧ z0 < 256) (q1 : 0 ≤ z1 ∧ z1 < 256) (q2 : 0 ≤ z2 ∧ z2 < 256) (q3 : 0 ≤ z3 ∧ z3 < 256) :
    Calls Yba.prog 36 #[.agg #[], .slice (some ⟨b, off, none⟩) len cap] w fun e w' => e = .returned (.int .u32 (z0 + z1 * 256 + z2 * 65536 + z3 * 16777216)) ∧ Below w.heap.size w w' := by
  have hb : b < w.heap.size := World.block_lt_of_cell? w _ h0
  have b0 : (0 : Int) < (len : Int) := by omega
  have b1 : (1 : Int) < (len : Int) := by omega
  have b2 : (2 : Int) < (len : Int) := by omega
  have b3 : (3 : Int) < (len : Int) := by omega
  have e : bits BinOp.or IntKind.u32 (bits BinOp.or IntKind.u32 (bits BinOp.or IntKind.u32 (z0 % 4294967296) (z1 % 4294967296 * 256 % 4294967296)) (z2 % 4294967296 * 65536 % 4294967296)) (z3 % 4294967296 * 16777216 % 4294967296) = z0 + z1 * 256 + z2 * 65536 + z3 * 16777216 := by
    have m0 : z0 % 4294967296 = z0 := by omega
    have m1 : z1 % 4294967296 * 256 % 4294967296 = z1 * 256 := by omega
    have m2 : z2 % 4294967296 * 65536 % 4294967296 = z2 * 65536 := by omega
    have m3 : z3 % 4294967296 * 16777216 % 4294967296 = z3 * 16777216 := by omega
    rw [m0, m1, m2, m3]
    simp (disch := omega) only [u32_or8, u32_or16, u32_or24]
  have HE : Hid (bits BinOp.or IntKind.u32 (bits BinOp.or IntKind.u32 (bits BinOp.or IntKind.u32 (z0 % 4294967296) (z1 % 4294967296 * 256 % 4294967296)) (z2 % 4294967296 * 65536 % 4294967296)) (z3 % 4294967296 * 16777216 % 4294967296) = z0 + z1 * 256 + z2 * 65536 + z3 * 16777216) := e
  clear e q0 q1 q2 q3
  go_enter Yba.func36, Yba.ntmps36
  go_wp2
  go_quiet (fail)
  go_wp2
  go_ret
  exact ⟨by rw [← HE.out]; rfl, below_drewN ((Below.refl _ _).alloc (Nat.le_refl _) _) _⟩

theorem operand_any (b len cap pc : Nat) (z0 z1 : Int) (w : World) (hpc : pc + 4 ≤ len) (hcap : len ≤ cap) (hl : cap ≤ 9223372036854775807)
    (h0 : w.cell? ⟨b, pc, none⟩ = some (.int .u8 z0)) (h1 : w.cell? ⟨b, pc + 1, none⟩ = some (.int .u8 z1)) (h2 : w.cell? ⟨b, pc + 2, none⟩ = some (.int .u8 0)) (h3 : w.cell? ⟨b, pc + 3, none⟩ = some (.int .u8 0))
    (q0 : 0 ≤ z0 ∧ z0 < 256) (q1 : 0 ≤ z1 ∧ z1 < 256) :
    Calls Yba.prog 26 #[.slice (some ⟨b, 0, none⟩) len cap, .int .i64 pc] w fun e w' => e = .returned (.int .u32 (z0 + z1 * 256)) ∧ Below w.heap.size w w' := by
  have i1 : (pc : Int) ≤ (len : Int) := by omega
  have i2 : ¬ cap = pc := by omega
  have HC : ∀ w' : World, Below w.heap.size w w' → Calls Yba.prog 36 #[.agg #[], .slice (some ⟨b, pc, none⟩) (len - pc) (cap - pc)] w' fun e w'' => e = .returned (.int .u32 (z0 + z1 * 256)) ∧ Below w.heap.size w w'' := by
    intro w' hb
    refine (uint32_any b pc (len - pc) (cap - pc) z0 z1 0 0 w' (by omega) (by omega) (cell_later hb h0) (cell_later hb h1) (cell_later hb h2) (cell_later hb h3) q0 q1 (by omega) (by omega)).mono ?_
    rintro e w'' ⟨rfl, hb2⟩
    exact ⟨by congr 2; omega, hb.trans (hb2.mono hb.size)⟩
  have HH : Hid (∀ w' : World, Below w.heap.size w w' → Calls Yba.prog 36 #[.agg #[], .slice (some ⟨b, pc, none⟩) (len - pc) (cap - pc)] w' fun e w'' => e = .returned (.int .u32 (z0 + z1 * 256)) ∧ Below w.heap.size w w'') := HC
  clear HC h0 h1 h2 h3 q0 q1
  go_enter Yba.func26, Yba.ntmps26
  go_wp2
  go_region_held3 (fun w' => True) (exact True.intro) (first | (go_at_call 36; refine (HH.out _ ?_).mono ?_; exact (Below.refl _ _).drew; rintro e w' ⟨rfl, hb⟩))
  go_wp2
  go_ret
  exact ⟨rfl, hb⟩

/-- where the things lie that watchedVars has been handed, and what they hold -/
structure Env where
  bf : Nat
  bops : Nat
  boff : Nat
  bidx : Nat
  bx : Nat
  gf : Nat
  gops : Nat
  goff : Nat
  gidx : Nat
  gc : Nat
  gs : Nat
  n : Nat
  ns : Nat
  np : Nat
  op : Nat → Int
  X : Nat → Nat

structure Env.In (E : Env) (B : Nat) (W : World) : Prop where
  lt : E.bf < B ∧ E.bops < B ∧ E.boff < B ∧ E.bidx < B ∧ E.bx < B ∧ E.gf < B ∧ E.gops < B ∧ E.goff < B ∧ E.gidx < B ∧ E.gc < B ∧ E.gs < B
  big : B ≤ W.heap.size
  n4 : E.n ≤ 4096
  xlt : ∀ i, i < E.n → E.X i < 65536
  cf : W.cell? ⟨E.bf, 0, none⟩ = some (.pointer (some ⟨E.gf, 0, none⟩))
  cops : W.cell? ⟨E.bops, 0, none⟩ = some (.slice (some ⟨E.gops, 0, none⟩) E.n E.n)
  coff : W.cell? ⟨E.boff, 0, none⟩ = some (.slice (some ⟨E.goff, 0, none⟩) E.n E.n)
  cidx : W.cell? ⟨E.bidx, 0, none⟩ = some (.slice (some ⟨E.gidx, 0, none⟩) (5 * E.n) (5 * E.n))
  cx : W.cell? ⟨E.bx, 0, none⟩ = some (.func (Fn.func 25) #[] #[.pointer (some ⟨E.bf, 0, none⟩), .pointer (some ⟨E.boff, 0, none⟩)])
  fp : W.cell? ⟨E.gf, 1, none⟩ = some (.int .i64 E.np)
  fs : W.cell? ⟨E.gf, 2, none⟩ = some (.slice (some ⟨E.gs, 0, none⟩) E.ns E.ns)
  fc : W.cell? ⟨E.gf, 4, none⟩ = some (.slice (some ⟨E.gc, 0, none⟩) (5 * E.n) (5 * E.n))
  ops : ∀ i, i < E.n → W.cell? ⟨E.gops, i, none⟩ = some (.int .u8 (E.op i))
  off : ∀ i, i < E.n → W.cell? ⟨E.goff, i, none⟩ = some (.int .i64 (5 * (i : Int)))
  idx : ∀ i, i < E.n → W.cell? ⟨E.gidx, 5 * i, none⟩ = some (.int .i32 (i : Int))
  cod : ∀ i, i < E.n → W.cell? ⟨E.gc, 5 * i + 1, none⟩ = some (.int .u8 ((E.X i % 256 : Nat) : Int)) ∧ W.cell? ⟨E.gc, 5 * i + 1 + 1, none⟩ = some (.int .u8 ((E.X i / 256 : Nat) : Int)) ∧
    W.cell? ⟨E.gc, 5 * i + 1 + 2, none⟩ = some (.int .u8 0) ∧ W.cell? ⟨E.gc, 5 * i + 1 + 3, none⟩ = some (.int .u8 0)

theorem Env.In.mono {E : Env} {B : Nat} {W W' : World} (h : E.In B W) (hb : Below B W W') : E.In B W' := by
  obtain ⟨l1, l2, l3, l4, l5, l6, l7, l8, l9, l10, l11⟩ := h.lt
  exact ⟨h.lt, Nat.le_trans h.big hb.size, h.n4, h.xlt, (hb.cell l1).trans h.cf, (hb.cell l2).trans h.cops, (hb.cell l3).trans h.coff, (hb.cell l4).trans h.cidx, (hb.cell l5).trans h.cx, (hb.cell l6).trans h.fp, (hb.cell l6).trans h.fs, (hb.cell l6).trans h.fc,
    fun i hi => (hb.cell l7).trans (h.ops i hi), fun i hi => (hb.cell l8).trans (h.off i hi), fun i hi => (hb.cell l9).trans (h.idx i hi),
    fun i hi => by
      obtain ⟨c1, c2, c3, c4⟩ := h.cod i hi
      exact ⟨(hb.cell l10).trans c1, (hb.cell l10).trans c2, (hb.cell l10).trans c3, (hb.cell l10).trans c4⟩⟩

set_option maxHeartbeats 400000 in
/-- the closure x: the operand of instruction i -/
theorem x_any (E : Env) (B i : Nat) (w : World) (h : E.In B w) (hi : i < E.n) :
    Calls Yba.prog 25 #[.int .i32 i, .pointer (some ⟨E.bf, 0, none⟩), .pointer (some ⟨E.boff, 0, none⟩)] w fun e w' => e = .returned (.int .u32 (E.X i)) ∧ Below w.heap.size w w' := by
  have h1 := h.cf
  have h2 := h.fc
  have h3 := h.coff
  have h4 := h.off i hi
  have hn := h.n4
  have b1 : (i : Int) < (E.n : Int) := by omega
  have HC : Hid (∀ w' : World, Below w.heap.size w w' → Calls Yba.prog 26 #[.slice (some ⟨E.gc, 0, none⟩) (5 * E.n) (5 * E.n), .int .i64 (IntKind.i64.wrap (5 * (i : Int) + 1))] w' fun e w'' => e = .returned (.int .u32 (E.X i)) ∧ Below w.heap.size w w'') := by
    intro w' hb
    have hI := h.mono (hb.mono h.big)
    obtain ⟨c1, c2, c3, c4⟩ := hI.cod i hi
    have hx := h.xlt i hi
    rw [w64 _ (by omega) (by omega), show (5 * (i : Int) + 1) = ((5 * i + 1 : Nat) : Int) by omega]
    refine (operand_any E.gc (5 * E.n) (5 * E.n) (5 * i + 1) _ _ w' (by omega) (Nat.le_refl _) (by omega) c1 c2 c3 c4 (by omega) (by omega)).mono ?_
    rintro e w'' ⟨rfl, hb2⟩
    exact ⟨by congr 2; omega, hb.trans (hb2.mono hb.size)⟩
  clear h hi
  go_enter Yba.func25, Yba.ntmps25
  go_wp2
  go_region_held3 (fun w' => w'.cell? ⟨E.bf, 0, none⟩ = some (.pointer (some ⟨E.gf, 0, none⟩)) ∧ w'.cell? ⟨E.gf, 4, none⟩ = some (.slice (some ⟨E.gc, 0, none⟩) (5 * E.n) (5 * E.n)) ∧ w'.cell? ⟨E.boff, 0, none⟩ = some (.slice (some ⟨E.goff, 0, none⟩) E.n E.n) ∧ w'.cell? ⟨E.goff, i, none⟩ = some (.int .i64 (5 * (i : Int)))) (first | go_keep | exact ⟨cell_later hb h1, cell_later hb h2, cell_later hb h3, cell_later hb h4⟩) (first | (go_at_call 26; refine (HC.out _ ?_).mono ?_; exact (Below.refl _ _).drew; rintro e w' ⟨rfl, hb⟩))
  go_wp2
  go_ret
  exact ⟨rfl, hb⟩

/-- an instruction that reads a slot: load, load_ref -/
def isRd (o : Int) : Bool := o == 2 || o == 27
/-- one that sets a slot: store, load_ref -/
def isSg (o : Int) : Bool := o == 3 || o == 27

theorem reads_any (E : Env) (B i : Nat) (w : World) (h : E.In B w) (hi : i < E.n) :
    Calls Yba.prog 27 #[.int .i32 i, .pointer (some ⟨E.bops, 0, none⟩)] w fun e w' => e = .returned (.bool (isRd (E.op i))) ∧ w' = w := by
  have h1 := h.cops
  have h2 := h.ops i hi
  have hn := h.n4
  have b1 : (i : Int) < (E.n : Int) := by omega
  clear h hi
  unfold isRd
  by_cases c : (E.op i == 2) = true
  · go_enter Yba.func27, Yba.ntmps27
    go_wp2
    go_ret
    exact ⟨by simp [c], rfl⟩
  · have c' : (E.op i == 2) = false := by simpa using c
    clear c
    go_enter Yba.func27, Yba.ntmps27
    go_wp2
    go_ret
    exact ⟨by simp [c'], rfl⟩

theorem sets_any (E : Env) (B i : Nat) (w : World) (h : E.In B w) (hi : i < E.n) :
    Calls Yba.prog 28 #[.int .i32 i, .pointer (some ⟨E.bops, 0, none⟩)] w fun e w' => e = .returned (.bool (isSg (E.op i))) ∧ w' = w := by
  have h1 := h.cops
  have h2 := h.ops i hi
  have hn := h.n4
  have b1 : (i : Int) < (E.n : Int) := by omega
  clear h hi
  unfold isSg
  by_cases c : (E.op i == 3) = true
  · go_enter Yba.func28, Yba.ntmps28
    go_wp2
    go_ret
    exact ⟨by simp [c], rfl⟩
  · have c' : (E.op i == 3) = false := by simpa using c
    clear c
    go_enter Yba.func28, Yba.ntmps28
    go_wp2
    go_ret
    exact ⟨by simp [c'], rfl⟩

set_option maxHeartbeats 400000 in
/-- the closure target: the instruction that the jump i goes to -/
theorem target_any (E : Env) (B i t : Nat) (w : World) (h : E.In B w) (hi : i < E.n) (ht : t < E.n) (hX : E.X i = 5 * t) :
    Calls Yba.prog 29 #[.int .i32 i, .pointer (some ⟨E.bidx, 0, none⟩), .pointer (some ⟨E.bx, 0, none⟩)] w fun e w' => e = .returned (.int .i32 t) ∧ Below w.heap.size w w' := by
  have h1 := h.cidx
  have h2 := h.cx
  have h3 := h.idx t ht
  have hn := h.n4
  have b1 : (t : Int) < (E.n : Int) := by omega
  have b2 : 5 * (t : Int) < 5 * (E.n : Int) := by omega
  have b3 : (0 : Int) ≤ 5 * (t : Int) := by omega
  have h3' : w.cell? ⟨E.gidx, (5 * (t : Int)).toNat, none⟩ = some (.int .i32 t) := by rw [show (5 * (t : Int)).toNat = 5 * t by omega]; exact h3
  have HC : Hid (∀ w' : World, Below w.heap.size w w' → Calls Yba.prog 25 #[.int .i32 i, .pointer (some ⟨E.bf, 0, none⟩), .pointer (some ⟨E.boff, 0, none⟩)] w' fun e w'' => e = .returned (.int .u32 (5 * (t : Int))) ∧ Below w.heap.size w w'') := by
    intro w' hb
    refine (x_any E B i w' (h.mono (hb.mono h.big)) hi).mono ?_
    rintro e w'' ⟨rfl, hb2⟩
    exact ⟨by rw [hX]; congr 2, hb.trans (hb2.mono hb.size)⟩
  clear h hi hX
  go_enter Yba.func29, Yba.ntmps29
  go_wp2
  go_region_held3 (fun w' => w'.cell? ⟨E.bidx, 0, none⟩ = some (.slice (some ⟨E.gidx, 0, none⟩) (5 * E.n) (5 * E.n)) ∧ w'.cell? ⟨E.bx, 0, none⟩ = some (.func (Fn.func 25) #[] #[.pointer (some ⟨E.bf, 0, none⟩), .pointer (some ⟨E.boff, 0, none⟩)]) ∧ w'.cell? ⟨E.gidx, (5 * (t : Int)).toNat, none⟩ = some (.int .i32 t)) (first | go_keep | exact ⟨cell_later hb h1, cell_later hb h2, cell_later hb h3'⟩) (first | (go_at_call 25; refine (HC.out _ ?_).mono ?_; exact (Below.refl _ _).drew; rintro e w' ⟨rfl, hb⟩))
  go_wp2
  go_ret
  exact ⟨rfl, hb⟩
end Go.Proofs.Ybulkexnju.W
