/-
  WALKS: slices.Clone and slices.Equal at the four and five types that the law names.
-/
import Derived.Test.YbulkexnjuEnv
namespace Go.Proofs.Ybulkexnju.W
open Go.RowKit Go.Proofs.Ybulkexnju.G
set_option linter.unusedVariables false

theorem info61 : (Yba.prog.info? 61).map (fun i => (i.zero, i.size, i.bytes)) = some (some (.int .u8 0), 1, 1) := by kernel_rfl

set_option maxHeartbeats 400000 in
set_option maxRecDepth 100000 in
theorem clone7_none (g : Nat) (w : World) :
    Calls Yba.prog 7 #[.slice (some ⟨g, 0, none⟩) 0 0] w fun e w' => ∃ g' cap', e = .returned (.slice (some ⟨g', 0, none⟩) 0 cap') ∧ Below w.heap.size w w' := by
  have hq' := fun (a : Option Addr) (n c n' c' : Nat) (w : World) => Lib.run_eql_slice_nil (P := Yba.prog) w 55 61 a n c n' c' Yba.underlying55
  go_enter Yba.func7, Yba.ntmps7
  go_wp2
  go_ret
  exact ⟨_, _, rfl, (Below.refl _ _).alloc (Nat.le_refl _) _⟩

set_option maxHeartbeats 400000 in
set_option maxRecDepth 100000 in
theorem clone7_any (g n : Nat) (z : Nat → Int) (w : World) (hn4 : n ≤ 1048576) (hc : ∀ i, i < n → w.cell? ⟨g, i, none⟩ = some (Value.int .u8 (z i))) :
    Calls Yba.prog 7 #[.slice (some ⟨g, 0, none⟩) n n] w fun e w' => ∃ g' cap', e = .returned (.slice (some ⟨g', 0, none⟩) n cap') ∧ (∀ i, i < n → w'.cell? ⟨g', i, none⟩ = some (Value.int .u8 (z i))) ∧ Below w.heap.size w w' := by
  by_cases hn0 : n = 0
  · subst hn0
    refine (clone7_none g w).mono ?_
    rintro e w' ⟨g', cap', rfl, hb⟩
    exact ⟨g', cap', rfl, fun i hi => absurd hi (Nat.not_lt_zero _), hb⟩
  have hn : 0 < n := by omega
  have hq' := fun (a : Option Addr) (n c n' c' : Nat) (w : World) => Lib.run_eql_slice_nil (P := Yba.prog) w 55 61 a n c n' c' Yba.underlying55
  obtain ⟨i, hi, hz⟩ := Option.map_eq_some_iff.1 info61
  simp only [Prod.mk.injEq] at hz
  obtain ⟨hz, hs, hb⟩ := hz
  obtain ⟨xs, hxs⟩ : ∃ xs : List Value, xs = (List.range n).map fun i => (Value.int .u8 (z i)) := ⟨_, rfl⟩
  have HX : Hid (xs.length = n * 1) := (show xs.length = n * 1 by rw [hxs]; simp)
  have HA : Hid (∀ j, j < n → xs[j]? = some (Value.int .u8 (z j))) := fun j hj => by rw [hxs]; simp [hj]
  have h1 : ∀ u ∈ xs, u.oneCell' = true := by
    intro u hu
    rw [hxs] at hu
    obtain ⟨j, _, rfl⟩ := List.mem_map.1 hu
    rfl
  have HC : Hid (∀ j u, xs[j]? = some u → w.cell? ((⟨g, 0, none⟩ : Addr).add j) = some u) := by
    intro j u hu
    have hj : j < n := by
      have := (List.getElem?_eq_some_iff.1 hu).1
      have := HX.out
      omega
    rw [HA.out j hj] at hu
    rw [Go.WideShapes.add_plain, Nat.zero_add, hc j hj]
    exact hu
  have HI : Hid (Yba.prog.info? 61 = some i) := hi
  have HZ : Hid (i.zero = some (.int .u8 0)) := hz
  have HS : Hid (i.size = 1) := hs
  have HB : Hid (i.bytes = 1) := hb
  clear hi hz hs hb hxs hc hn0
  go_enter Yba.func7, Yba.ntmps7
  go_wp2_with (at_builtin; refine wpList_append_lies _ rfl (.tmp 5) (.tmp 6) 55 rfl w.heap.size 61 i (.int .u8 0) 1 1 Yba.underlying55 HI.out HZ.out HS.out HB.out rfl (by decide) (.slice (some ⟨w.heap.size, 0, none⟩) 0 0) 0 [] rfl ?c1 ⟨g, 0, none⟩ n n xs rfl HX.out ?c2 h1 hn ?c3 ?c4 ?c5 _ rfl ?c6)
  case c1 => exact World.ownsRow_lit w #[] 0 (Nat.le_refl _) (by unfold maxLen; omega) rfl
  case c2 => exact fun j u hu => cell_later ((Below.refl w.heap.size w).alloc (Nat.le_refl _) _) (HC.out j u hu)
  case c3 => unfold maxLen; omega
  case c4 => omega
  case c5 => simp
  case c6 =>
  intro g' cap' w1 hown hgrow hat hlt
  have hbel : Below w.heap.size w w1 := ((Below.refl _ _).alloc (Nat.le_refl _) _).grown hgrow (by simp) (fun k hk => by simp [Value.ownBlock] at hk; omega)
  have HO : Hid (w1.ownsRow w.heap.size 61 1 (.slice (some ⟨g', 0, none⟩) n cap') n xs) := hown
  clear hown hgrow hat
  go_wp2
  go_ret
  refine ⟨g', cap', by simp, fun j hj => ?_, hbel⟩
  rw [HO.out.cellAt j (by omega)]
  exact HA.out j hj

theorem info3 : (Yba.prog.info? 3).map (fun i => (i.zero, i.size, i.bytes)) = some (some (.int .i64 0), 1, 8) := by kernel_rfl

set_option maxHeartbeats 400000 in
set_option maxRecDepth 100000 in
theorem clone8_none (g : Nat) (w : World) :
    Calls Yba.prog 8 #[.slice (some ⟨g, 0, none⟩) 0 0] w fun e w' => ∃ g' cap', e = .returned (.slice (some ⟨g', 0, none⟩) 0 cap') ∧ Below w.heap.size w w' := by
  have hq' := fun (a : Option Addr) (n c n' c' : Nat) (w : World) => Lib.run_eql_slice_nil (P := Yba.prog) w 46 3 a n c n' c' Yba.underlying46
  go_enter Yba.func8, Yba.ntmps8
  go_wp2
  go_ret
  exact ⟨_, _, rfl, (Below.refl _ _).alloc (Nat.le_refl _) _⟩

set_option maxHeartbeats 400000 in
set_option maxRecDepth 100000 in
theorem clone8_any (g n : Nat) (z : Nat → Int) (w : World) (hn4 : n ≤ 1048576) (hc : ∀ i, i < n → w.cell? ⟨g, i, none⟩ = some (Value.int .i64 (z i))) :
    Calls Yba.prog 8 #[.slice (some ⟨g, 0, none⟩) n n] w fun e w' => ∃ g' cap', e = .returned (.slice (some ⟨g', 0, none⟩) n cap') ∧ (∀ i, i < n → w'.cell? ⟨g', i, none⟩ = some (Value.int .i64 (z i))) ∧ Below w.heap.size w w' := by
  by_cases hn0 : n = 0
  · subst hn0
    refine (clone8_none g w).mono ?_
    rintro e w' ⟨g', cap', rfl, hb⟩
    exact ⟨g', cap', rfl, fun i hi => absurd hi (Nat.not_lt_zero _), hb⟩
  have hn : 0 < n := by omega
  have hq' := fun (a : Option Addr) (n c n' c' : Nat) (w : World) => Lib.run_eql_slice_nil (P := Yba.prog) w 46 3 a n c n' c' Yba.underlying46
  obtain ⟨i, hi, hz⟩ := Option.map_eq_some_iff.1 info3
  simp only [Prod.mk.injEq] at hz
  obtain ⟨hz, hs, hb⟩ := hz
  obtain ⟨xs, hxs⟩ : ∃ xs : List Value, xs = (List.range n).map fun i => (Value.int .i64 (z i)) := ⟨_, rfl⟩
  have HX : Hid (xs.length = n * 1) := (show xs.length = n * 1 by rw [hxs]; simp)
  have HA : Hid (∀ j, j < n → xs[j]? = some (Value.int .i64 (z j))) := fun j hj => by rw [hxs]; simp [hj]
  have h1 : ∀ u ∈ xs, u.oneCell' = true := by
    intro u hu
    rw [hxs] at hu
    obtain ⟨j, _, rfl⟩ := List.mem_map.1 hu
    rfl
  have HC : Hid (∀ j u, xs[j]? = some u → w.cell? ((⟨g, 0, none⟩ : Addr).add j) = some u) := by
    intro j u hu
    have hj : j < n := by
      have := (List.getElem?_eq_some_iff.1 hu).1
      have := HX.out
      omega
    rw [HA.out j hj] at hu
    rw [Go.WideShapes.add_plain, Nat.zero_add, hc j hj]
    exact hu
  have HI : Hid (Yba.prog.info? 3 = some i) := hi
  have HZ : Hid (i.zero = some (.int .i64 0)) := hz
  have HS : Hid (i.size = 1) := hs
  have HB : Hid (i.bytes = 8) := hb
  clear hi hz hs hb hxs hc hn0
  go_enter Yba.func8, Yba.ntmps8
  go_wp2_with (at_builtin; refine wpList_append_lies _ rfl (.tmp 5) (.tmp 6) 46 rfl w.heap.size 3 i (.int .i64 0) 1 8 Yba.underlying46 HI.out HZ.out HS.out HB.out rfl (by decide) (.slice (some ⟨w.heap.size, 0, none⟩) 0 0) 0 [] rfl ?c1 ⟨g, 0, none⟩ n n xs rfl HX.out ?c2 h1 hn ?c3 ?c4 ?c5 _ rfl ?c6)
  case c1 => exact World.ownsRow_lit w #[] 0 (Nat.le_refl _) (by unfold maxLen; omega) rfl
  case c2 => exact fun j u hu => cell_later ((Below.refl w.heap.size w).alloc (Nat.le_refl _) _) (HC.out j u hu)
  case c3 => unfold maxLen; omega
  case c4 => omega
  case c5 => simp
  case c6 =>
  intro g' cap' w1 hown hgrow hat hlt
  have hbel : Below w.heap.size w w1 := ((Below.refl _ _).alloc (Nat.le_refl _) _).grown hgrow (by simp) (fun k hk => by simp [Value.ownBlock] at hk; omega)
  have HO : Hid (w1.ownsRow w.heap.size 3 1 (.slice (some ⟨g', 0, none⟩) n cap') n xs) := hown
  clear hown hgrow hat
  go_wp2
  go_ret
  refine ⟨g', cap', by simp, fun j hj => ?_, hbel⟩
  rw [HO.out.cellAt j (by omega)]
  exact HA.out j hj

theorem info21 : (Yba.prog.info? 21).map (fun i => (i.zero, i.size, i.bytes)) = some (some (.int .i32 0), 1, 4) := by kernel_rfl

set_option maxHeartbeats 400000 in
set_option maxRecDepth 100000 in
theorem clone9_none (g : Nat) (w : World) :
    Calls Yba.prog 9 #[.slice (some ⟨g, 0, none⟩) 0 0] w fun e w' => ∃ g' cap', e = .returned (.slice (some ⟨g', 0, none⟩) 0 cap') ∧ Below w.heap.size w w' := by
  have hq' := fun (a : Option Addr) (n c n' c' : Nat) (w : World) => Lib.run_eql_slice_nil (P := Yba.prog) w 57 21 a n c n' c' Yba.underlying57
  go_enter Yba.func9, Yba.ntmps9
  go_wp2
  go_ret
  exact ⟨_, _, rfl, (Below.refl _ _).alloc (Nat.le_refl _) _⟩

set_option maxHeartbeats 400000 in
set_option maxRecDepth 100000 in
theorem clone9_any (g n : Nat) (z : Nat → Int) (w : World) (hn4 : n ≤ 1048576) (hc : ∀ i, i < n → w.cell? ⟨g, i, none⟩ = some (Value.int .i32 (z i))) :
    Calls Yba.prog 9 #[.slice (some ⟨g, 0, none⟩) n n] w fun e w' => ∃ g' cap', e = .returned (.slice (some ⟨g', 0, none⟩) n cap') ∧ (∀ i, i < n → w'.cell? ⟨g', i, none⟩ = some (Value.int .i32 (z i))) ∧ Below w.heap.size w w' := by
  by_cases hn0 : n = 0
  · subst hn0
    refine (clone9_none g w).mono ?_
    rintro e w' ⟨g', cap', rfl, hb⟩
    exact ⟨g', cap', rfl, fun i hi => absurd hi (Nat.not_lt_zero _), hb⟩
  have hn : 0 < n := by omega
  have hq' := fun (a : Option Addr) (n c n' c' : Nat) (w : World) => Lib.run_eql_slice_nil (P := Yba.prog) w 57 21 a n c n' c' Yba.underlying57
  obtain ⟨i, hi, hz⟩ := Option.map_eq_some_iff.1 info21
  simp only [Prod.mk.injEq] at hz
  obtain ⟨hz, hs, hb⟩ := hz
  obtain ⟨xs, hxs⟩ : ∃ xs : List Value, xs = (List.range n).map fun i => (Value.int .i32 (z i)) := ⟨_, rfl⟩
  have HX : Hid (xs.length = n * 1) := (show xs.length = n * 1 by rw [hxs]; simp)
  have HA : Hid (∀ j, j < n → xs[j]? = some (Value.int .i32 (z j))) := fun j hj => by rw [hxs]; simp [hj]
  have h1 : ∀ u ∈ xs, u.oneCell' = true := by
    intro u hu
    rw [hxs] at hu
    obtain ⟨j, _, rfl⟩ := List.mem_map.1 hu
    rfl
  have HC : Hid (∀ j u, xs[j]? = some u → w.cell? ((⟨g, 0, none⟩ : Addr).add j) = some u) := by
    intro j u hu
    have hj : j < n := by
      have := (List.getElem?_eq_some_iff.1 hu).1
      have := HX.out
      omega
    rw [HA.out j hj] at hu
    rw [Go.WideShapes.add_plain, Nat.zero_add, hc j hj]
    exact hu
  have HI : Hid (Yba.prog.info? 21 = some i) := hi
  have HZ : Hid (i.zero = some (.int .i32 0)) := hz
  have HS : Hid (i.size = 1) := hs
  have HB : Hid (i.bytes = 4) := hb
  clear hi hz hs hb hxs hc hn0
  go_enter Yba.func9, Yba.ntmps9
  go_wp2_with (at_builtin; refine wpList_append_lies _ rfl (.tmp 5) (.tmp 6) 57 rfl w.heap.size 21 i (.int .i32 0) 1 4 Yba.underlying57 HI.out HZ.out HS.out HB.out rfl (by decide) (.slice (some ⟨w.heap.size, 0, none⟩) 0 0) 0 [] rfl ?c1 ⟨g, 0, none⟩ n n xs rfl HX.out ?c2 h1 hn ?c3 ?c4 ?c5 _ rfl ?c6)
  case c1 => exact World.ownsRow_lit w #[] 0 (Nat.le_refl _) (by unfold maxLen; omega) rfl
  case c2 => exact fun j u hu => cell_later ((Below.refl w.heap.size w).alloc (Nat.le_refl _) _) (HC.out j u hu)
  case c3 => unfold maxLen; omega
  case c4 => omega
  case c5 => simp
  case c6 =>
  intro g' cap' w1 hown hgrow hat hlt
  have hbel : Below w.heap.size w w1 := ((Below.refl _ _).alloc (Nat.le_refl _) _).grown hgrow (by simp) (fun k hk => by simp [Value.ownBlock] at hk; omega)
  have HO : Hid (w1.ownsRow w.heap.size 21 1 (.slice (some ⟨g', 0, none⟩) n cap') n xs) := hown
  clear hown hgrow hat
  go_wp2
  go_ret
  refine ⟨g', cap', by simp, fun j hj => ?_, hbel⟩
  rw [HO.out.cellAt j (by omega)]
  exact HA.out j hj

theorem info5 : (Yba.prog.info? 5).map (fun i => (i.zero, i.size, i.bytes)) = some (some (.int .u8 0), 1, 1) := by kernel_rfl

set_option maxHeartbeats 400000 in
set_option maxRecDepth 100000 in
theorem clone10_none (g : Nat) (w : World) :
    Calls Yba.prog 10 #[.slice (some ⟨g, 0, none⟩) 0 0] w fun e w' => ∃ g' cap', e = .returned (.slice (some ⟨g', 0, none⟩) 0 cap') ∧ Below w.heap.size w w' := by
  have hq' := fun (a : Option Addr) (n c n' c' : Nat) (w : World) => Lib.run_eql_slice_nil (P := Yba.prog) w 56 5 a n c n' c' Yba.underlying56
  go_enter Yba.func10, Yba.ntmps10
  go_wp2
  go_ret
  exact ⟨_, _, rfl, (Below.refl _ _).alloc (Nat.le_refl _) _⟩

set_option maxHeartbeats 400000 in
set_option maxRecDepth 100000 in
theorem clone10_any (g n : Nat) (z : Nat → Int) (w : World) (hn4 : n ≤ 1048576) (hc : ∀ i, i < n → w.cell? ⟨g, i, none⟩ = some (Value.int .u8 (z i))) :
    Calls Yba.prog 10 #[.slice (some ⟨g, 0, none⟩) n n] w fun e w' => ∃ g' cap', e = .returned (.slice (some ⟨g', 0, none⟩) n cap') ∧ (∀ i, i < n → w'.cell? ⟨g', i, none⟩ = some (Value.int .u8 (z i))) ∧ Below w.heap.size w w' := by
  by_cases hn0 : n = 0
  · subst hn0
    refine (clone10_none g w).mono ?_
    rintro e w' ⟨g', cap', rfl, hb⟩
    exact ⟨g', cap', rfl, fun i hi => absurd hi (Nat.not_lt_zero _), hb⟩
  have hn : 0 < n := by omega
  have hq' := fun (a : Option Addr) (n c n' c' : Nat) (w : World) => Lib.run_eql_slice_nil (P := Yba.prog) w 56 5 a n c n' c' Yba.underlying56
  obtain ⟨i, hi, hz⟩ := Option.map_eq_some_iff.1 info5
  simp only [Prod.mk.injEq] at hz
  obtain ⟨hz, hs, hb⟩ := hz
  obtain ⟨xs, hxs⟩ : ∃ xs : List Value, xs = (List.range n).map fun i => (Value.int .u8 (z i)) := ⟨_, rfl⟩
  have HX : Hid (xs.length = n * 1) := (show xs.length = n * 1 by rw [hxs]; simp)
  have HA : Hid (∀ j, j < n → xs[j]? = some (Value.int .u8 (z j))) := fun j hj => by rw [hxs]; simp [hj]
  have h1 : ∀ u ∈ xs, u.oneCell' = true := by
    intro u hu
    rw [hxs] at hu
    obtain ⟨j, _, rfl⟩ := List.mem_map.1 hu
    rfl
  have HC : Hid (∀ j u, xs[j]? = some u → w.cell? ((⟨g, 0, none⟩ : Addr).add j) = some u) := by
    intro j u hu
    have hj : j < n := by
      have := (List.getElem?_eq_some_iff.1 hu).1
      have := HX.out
      omega
    rw [HA.out j hj] at hu
    rw [Go.WideShapes.add_plain, Nat.zero_add, hc j hj]
    exact hu
  have HI : Hid (Yba.prog.info? 5 = some i) := hi
  have HZ : Hid (i.zero = some (.int .u8 0)) := hz
  have HS : Hid (i.size = 1) := hs
  have HB : Hid (i.bytes = 1) := hb
  clear hi hz hs hb hxs hc hn0
  go_enter Yba.func10, Yba.ntmps10
  go_wp2_with (at_builtin; refine wpList_append_lies _ rfl (.tmp 5) (.tmp 6) 56 rfl w.heap.size 5 i (.int .u8 0) 1 1 Yba.underlying56 HI.out HZ.out HS.out HB.out rfl (by decide) (.slice (some ⟨w.heap.size, 0, none⟩) 0 0) 0 [] rfl ?c1 ⟨g, 0, none⟩ n n xs rfl HX.out ?c2 h1 hn ?c3 ?c4 ?c5 _ rfl ?c6)
  case c1 => exact World.ownsRow_lit w #[] 0 (Nat.le_refl _) (by unfold maxLen; omega) rfl
  case c2 => exact fun j u hu => cell_later ((Below.refl w.heap.size w).alloc (Nat.le_refl _) _) (HC.out j u hu)
  case c3 => unfold maxLen; omega
  case c4 => omega
  case c5 => simp
  case c6 =>
  intro g' cap' w1 hown hgrow hat hlt
  have hbel : Below w.heap.size w w1 := ((Below.refl _ _).alloc (Nat.le_refl _) _).grown hgrow (by simp) (fun k hk => by simp [Value.ownBlock] at hk; omega)
  have HO : Hid (w1.ownsRow w.heap.size 5 1 (.slice (some ⟨g', 0, none⟩) n cap') n xs) := hown
  clear hown hgrow hat
  go_wp2
  go_ret
  refine ⟨g', cap', by simp, fun j hj => ?_, hbel⟩
  rw [HO.out.cellAt j (by omega)]
  exact HA.out j hj

theorem eq13_none (a b : Option Addr) (ca cb : Nat) (w : World) :
    Calls Yba.prog 13 #[.slice a 0 ca, .slice b 0 cb] w fun e w' => e = .returned (.bool true) ∧ ∃ n, w' = w.drewN n := by
  go_enter Yba.func13, Yba.ntmps13
  go_wp2
  go_loop [13] (fun i => i = .int .i64 0) (fun i => 0)
  case atStart => rfl
  case round =>
    subst hrel
    go_wp2
    go_ret
    exact ⟨rfl, 0, rfl⟩

set_option maxHeartbeats 400000 in
theorem eq13_any (ga gb len ca cb : Nat) (z : Nat → Bool) (w : World) (hlen : len ≤ 9223372036854775807)
    (ha : ∀ i, i < len → w.cell? ⟨ga, i, none⟩ = some (Value.bool (z i)))
    (hb : ∀ i, i < len → w.cell? ⟨gb, i, none⟩ = some (Value.bool (z i))) :
    Calls Yba.prog 13 #[.slice (some ⟨ga, 0, none⟩) len ca, .slice (some ⟨gb, 0, none⟩) len cb] w fun e w' => e = .returned (.bool true) ∧ ∃ n, w' = w.drewN n := by
  go_enter Yba.func13, Yba.ntmps13
  go_wp2
  go_loopw [13] (fun i wr => ∃ k n : Nat, k ≤ len ∧ i = .int .i64 k ∧ wr = w.drewN n) (fun i _ => len - (intOf i).toNat)
  case atStart => exact ⟨0, 0, Nat.zero_le _, rfl, rfl⟩
  case round =>
    obtain ⟨k, n, hk, rfl, rfl⟩ := hrel
    by_cases hlt : k < len
    · have h1 := ha k hlt
      have h2 := hb k hlt
      have hi : (k : Int) < (len : Int) := by omega
      clear ha hb
      go_wp2
      go_quiet (fail)
      go_wp2
      go_roundw
      case rel => exact ⟨k + 1, n + nq, by omega, by go_num, rfl⟩
      case measure => simp [intOf]; omega
    · go_wp2
      go_ret
      exact ⟨rfl, n, rfl⟩

theorem eq14_none (a b : Option Addr) (ca cb : Nat) (w : World) :
    Calls Yba.prog 14 #[.slice a 0 ca, .slice b 0 cb] w fun e w' => e = .returned (.bool true) ∧ ∃ n, w' = w.drewN n := by
  go_enter Yba.func14, Yba.ntmps14
  go_wp2
  go_loop [13] (fun i => i = .int .i64 0) (fun i => 0)
  case atStart => rfl
  case round =>
    subst hrel
    go_wp2
    go_ret
    exact ⟨rfl, 0, rfl⟩

set_option maxHeartbeats 400000 in
theorem eq14_any (ga gb len ca cb : Nat) (z : Nat → Int) (w : World) (hlen : len ≤ 9223372036854775807)
    (ha : ∀ i, i < len → w.cell? ⟨ga, i, none⟩ = some (Value.int .u8 (z i)))
    (hb : ∀ i, i < len → w.cell? ⟨gb, i, none⟩ = some (Value.int .u8 (z i))) :
    Calls Yba.prog 14 #[.slice (some ⟨ga, 0, none⟩) len ca, .slice (some ⟨gb, 0, none⟩) len cb] w fun e w' => e = .returned (.bool true) ∧ ∃ n, w' = w.drewN n := by
  go_enter Yba.func14, Yba.ntmps14
  go_wp2
  go_loopw [13] (fun i wr => ∃ k n : Nat, k ≤ len ∧ i = .int .i64 k ∧ wr = w.drewN n) (fun i _ => len - (intOf i).toNat)
  case atStart => exact ⟨0, 0, Nat.zero_le _, rfl, rfl⟩
  case round =>
    obtain ⟨k, n, hk, rfl, rfl⟩ := hrel
    by_cases hlt : k < len
    · have h1 := ha k hlt
      have h2 := hb k hlt
      have hi : (k : Int) < (len : Int) := by omega
      clear ha hb
      go_wp2
      go_quiet (fail)
      go_wp2
      go_roundw
      case rel => exact ⟨k + 1, n + nq, by omega, by go_num, rfl⟩
      case measure => simp [intOf]; omega
    · go_wp2
      go_ret
      exact ⟨rfl, n, rfl⟩

theorem eq15_none (a b : Option Addr) (ca cb : Nat) (w : World) :
    Calls Yba.prog 15 #[.slice a 0 ca, .slice b 0 cb] w fun e w' => e = .returned (.bool true) ∧ ∃ n, w' = w.drewN n := by
  go_enter Yba.func15, Yba.ntmps15
  go_wp2
  go_loop [13] (fun i => i = .int .i64 0) (fun i => 0)
  case atStart => rfl
  case round =>
    subst hrel
    go_wp2
    go_ret
    exact ⟨rfl, 0, rfl⟩

set_option maxHeartbeats 400000 in
theorem eq15_any (ga gb len ca cb : Nat) (z : Nat → Int) (w : World) (hlen : len ≤ 9223372036854775807)
    (ha : ∀ i, i < len → w.cell? ⟨ga, i, none⟩ = some (Value.int .i64 (z i)))
    (hb : ∀ i, i < len → w.cell? ⟨gb, i, none⟩ = some (Value.int .i64 (z i))) :
    Calls Yba.prog 15 #[.slice (some ⟨ga, 0, none⟩) len ca, .slice (some ⟨gb, 0, none⟩) len cb] w fun e w' => e = .returned (.bool true) ∧ ∃ n, w' = w.drewN n := by
  go_enter Yba.func15, Yba.ntmps15
  go_wp2
  go_loopw [13] (fun i wr => ∃ k n : Nat, k ≤ len ∧ i = .int .i64 k ∧ wr = w.drewN n) (fun i _ => len - (intOf i).toNat)
  case atStart => exact ⟨0, 0, Nat.zero_le _, rfl, rfl⟩
  case round =>
    obtain ⟨k, n, hk, rfl, rfl⟩ := hrel
    by_cases hlt : k < len
    · have h1 := ha k hlt
      have h2 := hb k hlt
      have hi : (k : Int) < (len : Int) := by omega
      clear ha hb
      go_wp2
      go_quiet (fail)
      go_wp2
      go_roundw
      case rel => exact ⟨k + 1, n + nq, by omega, by go_num, rfl⟩
      case measure => simp [intOf]; omega
    · go_wp2
      go_ret
      exact ⟨rfl, n, rfl⟩

theorem eq16_none (a b : Option Addr) (ca cb : Nat) (w : World) :
    Calls Yba.prog 16 #[.slice a 0 ca, .slice b 0 cb] w fun e w' => e = .returned (.bool true) ∧ ∃ n, w' = w.drewN n := by
  go_enter Yba.func16, Yba.ntmps16
  go_wp2
  go_loop [13] (fun i => i = .int .i64 0) (fun i => 0)
  case atStart => rfl
  case round =>
    subst hrel
    go_wp2
    go_ret
    exact ⟨rfl, 0, rfl⟩

set_option maxHeartbeats 400000 in
theorem eq16_any (ga gb len ca cb : Nat) (z : Nat → Int) (w : World) (hlen : len ≤ 9223372036854775807)
    (ha : ∀ i, i < len → w.cell? ⟨ga, i, none⟩ = some (Value.int .i32 (z i)))
    (hb : ∀ i, i < len → w.cell? ⟨gb, i, none⟩ = some (Value.int .i32 (z i))) :
    Calls Yba.prog 16 #[.slice (some ⟨ga, 0, none⟩) len ca, .slice (some ⟨gb, 0, none⟩) len cb] w fun e w' => e = .returned (.bool true) ∧ ∃ n, w' = w.drewN n := by
  go_enter Yba.func16, Yba.ntmps16
  go_wp2
  go_loopw [13] (fun i wr => ∃ k n : Nat, k ≤ len ∧ i = .int .i64 k ∧ wr = w.drewN n) (fun i _ => len - (intOf i).toNat)
  case atStart => exact ⟨0, 0, Nat.zero_le _, rfl, rfl⟩
  case round =>
    obtain ⟨k, n, hk, rfl, rfl⟩ := hrel
    by_cases hlt : k < len
    · have h1 := ha k hlt
      have h2 := hb k hlt
      have hi : (k : Int) < (len : Int) := by omega
      clear ha hb
      go_wp2
      go_quiet (fail)
      go_wp2
      go_roundw
      case rel => exact ⟨k + 1, n + nq, by omega, by go_num, rfl⟩
      case measure => simp [intOf]; omega
    · go_wp2
      go_ret
      exact ⟨rfl, n, rfl⟩

theorem eq17_none (a b : Option Addr) (ca cb : Nat) (w : World) :
    Calls Yba.prog 17 #[.slice a 0 ca, .slice b 0 cb] w fun e w' => e = .returned (.bool true) ∧ ∃ n, w' = w.drewN n := by
  go_enter Yba.func17, Yba.ntmps17
  go_wp2
  go_loop [13] (fun i => i = .int .i64 0) (fun i => 0)
  case atStart => rfl
  case round =>
    subst hrel
    go_wp2
    go_ret
    exact ⟨rfl, 0, rfl⟩

set_option maxHeartbeats 400000 in
theorem eq17_any (ga gb len ca cb : Nat) (z : Nat → Int) (w : World) (hlen : len ≤ 9223372036854775807)
    (ha : ∀ i, i < len → w.cell? ⟨ga, i, none⟩ = some (Value.int .u8 (z i)))
    (hb : ∀ i, i < len → w.cell? ⟨gb, i, none⟩ = some (Value.int .u8 (z i))) :
    Calls Yba.prog 17 #[.slice (some ⟨ga, 0, none⟩) len ca, .slice (some ⟨gb, 0, none⟩) len cb] w fun e w' => e = .returned (.bool true) ∧ ∃ n, w' = w.drewN n := by
  go_enter Yba.func17, Yba.ntmps17
  go_wp2
  go_loopw [13] (fun i wr => ∃ k n : Nat, k ≤ len ∧ i = .int .i64 k ∧ wr = w.drewN n) (fun i _ => len - (intOf i).toNat)
  case atStart => exact ⟨0, 0, Nat.zero_le _, rfl, rfl⟩
  case round =>
    obtain ⟨k, n, hk, rfl, rfl⟩ := hrel
    by_cases hlt : k < len
    · have h1 := ha k hlt
      have h2 := hb k hlt
      have hi : (k : Int) < (len : Int) := by omega
      clear ha hb
      go_wp2
      go_quiet (fail)
      go_wp2
      go_roundw
      case rel => exact ⟨k + 1, n + nq, by omega, by go_num, rfl⟩
      case measure => simp [intOf]; omega
    · go_wp2
      go_ret
      exact ⟨rfl, n, rfl⟩

end Go.Proofs.Ybulkexnju.W
