import Derived.Test.YbulkbacsHist
import Derived.WalkSpells
namespace Go.Proofs.Ybulkbacs
open Go.ChangeShapes Go.WideShapes Go.ChangeAt Go.RowKit

theorem info3 : (Yba.prog.info? 3).map (fun i => (i.zero, i.size, i.bytes)) = some (some (.int .i64 0), 1, 8) := by kernel_rfl
theorem info55 : (Yba.prog.info? 55).map (fun i => (i.zero, i.size, i.bytes)) = some (some .nilIface, 1, 16) := by kernel_rfl

/-- What one statement 'x.f = append(x.f, v)' does: all but the block S is as it was, new blocks aside. -/
theorem grownBy_step {w w1 w2 : World} {S : Nat} {r : Option Nat} (h : w.grownBy w1 (some S)) (k : w1.grownBy w2 r) (hr : r = none ∨ r = some S) : w.grownBy w2 (some S) :=
  ⟨k.os.trans h.os, k.tape.trans h.tape, k.output.trans h.output, Nat.le_trans h.size k.size, fun i hi hn => by
    have hn' : some i ≠ r := by
      rcases hr with rfl | rfl
      · simp
      · exact hn
    rw [k.block i (Nat.lt_of_lt_of_le hi h.size) hn', h.block i hi hn]⟩
theorem grownBy_setCell (w : World) (S o : Nat) (v : Value) : w.grownBy (w.setCell ⟨S, o, none⟩ v) (some S) :=
  ⟨rfl, rfl, rfl, by simp, fun k _ hk => Below.heap_setCell _ _ _ _ (by simpa using hk)⟩

/-- The site's block, ahead of the one call that it is asked. -/
structure Site (w : World) (S : Nat) (app ans rd : Bool) : Prop where
  c0 : w.cell? ⟨S, 0, none⟩ = some (.bool app)
  c1 : w.cell? ⟨S, 1, none⟩ = some (.bool ans)
  c2 : w.cell? ⟨S, 2, none⟩ = some (.bool rd)
  c3 : w.cell? ⟨S, 3, none⟩ = some (.slice none 0 0)
  c4 : w.cell? ⟨S, 4, none⟩ = some (.slice none 0 0)
  c5 : w.cell? ⟨S, 5, none⟩ = some (.slice none 0 0)
  fz : ∀ o, w.frozen? ⟨S, o, none⟩ = false

/-- The site behind a step that leaves its block alone. -/
theorem old_cell {w w1 : World} {S o : Nat} {x : Obj} {v : Value} (h : (w.alloc x).grownBy w1 none) (hc : w.cell? ⟨S, o, none⟩ = some v) : w1.cell? ⟨S, o, none⟩ = some v :=
  h.cell (cell_alloc_old hc) (by simp)
theorem old_frozen {w w1 : World} {S o : Nat} {x : Obj} (h : (w.alloc x).grownBy w1 none) (hS : S < w.heap.size) (hc : w.frozen? ⟨S, o, none⟩ = false) : w1.frozen? ⟨S, o, none⟩ = false := by
  have e1 : w1.frozen? ⟨S, o, none⟩ = (w.alloc x).frozen? ⟨S, o, none⟩ := World.frozen?_of_block (h.block S (by simp; omega) (by simp))
  have e2 : (w.alloc x).frozen? ⟨S, o, none⟩ = w.frozen? ⟨S, o, none⟩ := ((Below.refl w.heap.size w).alloc (Nat.le_refl _) x).frozen (p := ⟨S, o, none⟩) hS
  rw [e1, e2, hc]
theorem one_new {w : World} {v : Value} {t : TypeId} : ∀ j u, [v][j]? = some u → (w.alloc (.cells #[v] t)).cell? ((⟨w.heap.size, 0, none⟩ : Addr).add j) = some u := by
  intro j u hj
  match j, hj with
  | 0, hj => simp at hj; subst hj; simp [Addr.add]

theorem one_new' {w : World} {b : Nat} {v : Value} {t : TypeId} (hb : b = w.heap.size) : ∀ j u, [v][j]? = some u → (w.alloc (.cells #[v] t)).cell? ((⟨b, 0, none⟩ : Addr).add j) = some u := by
  subst hb
  exact one_new
theorem owns_slice {w : World} {base e size n : Nat} {v : Value} {xs : List Value} (h : w.ownsRow base e size v n xs) : ∃ a l c, v = .slice a l c := by
  rcases h.2 with ⟨rfl, _⟩ | ⟨g, cap, cur, rfl, _⟩
  · exact ⟨_, _, _, rfl⟩
  · exact ⟨_, _, _, rfl⟩

/-- A cell of the site behind the store into another. -/
theorem past_set {w : World} {S o o' : Nat} {u v : Value} (hne : o ≠ o') (h : w.cell? ⟨S, o', none⟩ = some v) : (w.setCell ⟨S, o, none⟩ u).cell? ⟨S, o', none⟩ = some v := by
  rw [World.cell?_setCell_other _ _ _ _ (by simp)]; exact h
theorem past_set_f {w : World} {S o o' : Nat} {u : Value} (h : w.frozen? ⟨S, o', none⟩ = false) : (w.setCell ⟨S, o, none⟩ u).frozen? ⟨S, o', none⟩ = false := by
  rw [World.frozen?_setCell]; exact h

set_option maxHeartbeats 1000000 in
set_option maxRecDepth 100000 in
theorem applicable (S : Nat) (app ans rd : Bool) (fr : Int) (x : Value) (w : World) (hs : Site w S app ans rd) :
    Calls Yba.prog 33 #[.pointer (some ⟨S, 0, none⟩), .int .i64 fr, .iface 53 x] w fun e w' => e = .returned (.bool app) ∧ w.grownBy w' (some S) := by
  obtain ⟨i, hi, hz0, hz1, hz2⟩ := info_parts info3
  obtain ⟨i', hi', hz0', hz1', hz2'⟩ := info_parts info55
  have hS : S < w.heap.size := cell_lt hs.c0
  obtain ⟨g0, ga, gr, g3, g4, g5, gf⟩ := hs
  have gf3 := gf 3
  have gf4 := gf 4
  have gf5 := gf 5
  clear gf
  go_enter Yba.func33, Yba.ntmps33
  go_wp2_with (at_builtin; go_must (refine wpList_append_own _ rfl _ _ 26 rfl w.heap.size 3 i (.int .i64 0) 1 8 Yba.underlying26 hi hz0 hz1 hz2 rfl (by decide) _ _ _ rfl (World.ownsRow_nil _ _ _ _) ⟨w.heap.size, 0, none⟩ 1 1 [.int .i64 1] rfl rfl one_new (by simp [Value.oneCell']) (by decide) (by decide) (by simp) ?_))
  intro v1 w1 o1 k1 _
  obtain ⟨a1, l1, c1, rfl⟩ := owns_slice o1
  have q0 := old_cell k1 g0
  have q3 := old_cell k1 g3
  have q4 := old_cell k1 g4
  have q5 := old_cell k1 g5
  have qf3 := old_frozen k1 hS gf3
  have qf4 := old_frozen k1 hS gf4
  have qf5 := old_frozen k1 hS gf5
  have hS1 := cell_lt q0
  have K1 : Hid (w.grownBy (w1.setCell ⟨S, 3, none⟩ (.slice a1 l1 c1)) (some S)) := grownBy_step (grownBy_step (World.grownBy_alloc w _ _) k1 (.inl rfl)) (grownBy_setCell _ _ _ _) (.inr rfl)
  clear g0 ga gr g3 g4 g5 gf3 gf4 gf5 o1 k1
  go_wp2_with (at_builtin; go_must (refine wpList_append_own _ rfl _ _ 26 rfl w1.heap.size 3 i (.int .i64 0) 1 8 Yba.underlying26 hi hz0 hz1 hz2 rfl (by decide) _ _ _ rfl (World.ownsRow_nil _ _ _ _) ⟨w1.heap.size, 0, none⟩ 1 1 [.int .i64 fr] rfl rfl (by exact one_new' (by simp)) (by simp [Value.oneCell']) (by decide) (by decide) (by simp) ?_))
  intro v2 w2 o2 k2 _
  obtain ⟨a2, l2, c2, rfl⟩ := owns_slice o2
  have r0 := old_cell k2 (past_set (o := 3) (by decide) q0)
  have r4 := old_cell k2 (past_set (o := 3) (by decide) q4)
  have r5 := old_cell k2 (past_set (o := 3) (by decide) q5)
  have rf4 := old_frozen k2 (by simpa using hS1) (past_set_f (o := 3) qf4)
  have rf5 := old_frozen k2 (by simpa using hS1) (past_set_f (o := 3) qf5)
  have hS2 := cell_lt r0
  have K2 : Hid (w.grownBy (w2.setCell ⟨S, 4, none⟩ (.slice a2 l2 c2)) (some S)) := grownBy_step (grownBy_step (grownBy_step K1.out (World.grownBy_alloc _ _ none) (.inl rfl)) k2 (.inl rfl)) (grownBy_setCell _ _ _ _) (.inr rfl)
  clear q0 q3 q4 q5 qf3 qf4 qf5 o2 k2 K1
  go_wp2_with (at_builtin; go_must (refine wpList_append_own _ rfl _ _ 27 rfl w2.heap.size 55 i' .nilIface 1 16 Yba.underlying27 hi' hz0' hz1' hz2' rfl (by decide) _ _ _ rfl (World.ownsRow_nil _ _ _ _) ⟨w2.heap.size, 0, none⟩ 1 1 [.iface 53 x] rfl rfl (by exact one_new' (by simp)) (by simp [Value.oneCell']) (by decide) (by decide) (by simp) ?_))
  intro v3 w3 o3 k3 _
  obtain ⟨a3, l3, c3, rfl⟩ := owns_slice o3
  have s0 := old_cell k3 (past_set (o := 4) (by decide) r0)
  have s5 := old_cell k3 (past_set (o := 4) (by decide) r5)
  have sf5 := old_frozen k3 (by simpa using hS2) (past_set_f (o := 4) rf5)
  have K3 : Hid (w.grownBy (w3.setCell ⟨S, 5, none⟩ (.slice a3 l3 c3)) (some S)) := grownBy_step (grownBy_step (grownBy_step K2.out (World.grownBy_alloc _ _ none) (.inl rfl)) k3 (.inl rfl)) (grownBy_setCell _ _ _ _) (.inr rfl)
  clear r0 r4 r5 rf4 rf5 o3 k3 K2
  go_wp2
  go_ret
  exact ⟨rfl, K3.out⟩

set_option maxHeartbeats 1000000 in
set_option maxRecDepth 100000 in
theorem answerable (S : Nat) (app ans rd : Bool) (x : Value) (w : World) (hs : Site w S app ans rd) :
    Calls Yba.prog 32 #[.pointer (some ⟨S, 0, none⟩), .iface 53 x] w fun e w' => e = .returned (.bool ans) ∧ w.grownBy w' (some S) := by
  obtain ⟨i, hi, hz0, hz1, hz2⟩ := info_parts info3
  obtain ⟨i', hi', hz0', hz1', hz2'⟩ := info_parts info55
  have hS : S < w.heap.size := cell_lt hs.c0
  obtain ⟨g0, ga, gr, g3, g4, g5, gf⟩ := hs
  have gf3 := gf 3
  have gf4 := gf 4
  have gf5 := gf 5
  clear gf
  go_enter Yba.func32, Yba.ntmps32
  go_wp2_with (at_builtin; go_must (refine wpList_append_own _ rfl _ _ 26 rfl w.heap.size 3 i (.int .i64 0) 1 8 Yba.underlying26 hi hz0 hz1 hz2 rfl (by decide) _ _ _ rfl (World.ownsRow_nil _ _ _ _) ⟨w.heap.size, 0, none⟩ 1 1 [.int .i64 2] rfl rfl one_new (by simp [Value.oneCell']) (by decide) (by decide) (by simp) ?_))
  intro v1 w1 o1 k1 _
  obtain ⟨a1, l1, c1, rfl⟩ := owns_slice o1
  have q0 := old_cell k1 ga
  have q3 := old_cell k1 g3
  have q4 := old_cell k1 g4
  have q5 := old_cell k1 g5
  have qf3 := old_frozen k1 hS gf3
  have qf4 := old_frozen k1 hS gf4
  have qf5 := old_frozen k1 hS gf5
  have hS1 := cell_lt q0
  have K1 : Hid (w.grownBy (w1.setCell ⟨S, 3, none⟩ (.slice a1 l1 c1)) (some S)) := grownBy_step (grownBy_step (World.grownBy_alloc w _ _) k1 (.inl rfl)) (grownBy_setCell _ _ _ _) (.inr rfl)
  clear g0 ga gr g3 g4 g5 gf3 gf4 gf5 o1 k1
  go_wp2_with (at_builtin; go_must (refine wpList_append_own _ rfl _ _ 26 rfl w1.heap.size 3 i (.int .i64 0) 1 8 Yba.underlying26 hi hz0 hz1 hz2 rfl (by decide) _ _ _ rfl (World.ownsRow_nil _ _ _ _) ⟨w1.heap.size, 0, none⟩ 1 1 [.int .i64 0] rfl rfl (by exact one_new' (by simp)) (by simp [Value.oneCell']) (by decide) (by decide) (by simp) ?_))
  intro v2 w2 o2 k2 _
  obtain ⟨a2, l2, c2, rfl⟩ := owns_slice o2
  have r0 := old_cell k2 (past_set (o := 3) (by decide) q0)
  have r4 := old_cell k2 (past_set (o := 3) (by decide) q4)
  have r5 := old_cell k2 (past_set (o := 3) (by decide) q5)
  have rf4 := old_frozen k2 (by simpa using hS1) (past_set_f (o := 3) qf4)
  have rf5 := old_frozen k2 (by simpa using hS1) (past_set_f (o := 3) qf5)
  have hS2 := cell_lt r0
  have K2 : Hid (w.grownBy (w2.setCell ⟨S, 4, none⟩ (.slice a2 l2 c2)) (some S)) := grownBy_step (grownBy_step (grownBy_step K1.out (World.grownBy_alloc _ _ none) (.inl rfl)) k2 (.inl rfl)) (grownBy_setCell _ _ _ _) (.inr rfl)
  clear q0 q3 q4 q5 qf3 qf4 qf5 o2 k2 K1
  go_wp2_with (at_builtin; go_must (refine wpList_append_own _ rfl _ _ 27 rfl w2.heap.size 55 i' .nilIface 1 16 Yba.underlying27 hi' hz0' hz1' hz2' rfl (by decide) _ _ _ rfl (World.ownsRow_nil _ _ _ _) ⟨w2.heap.size, 0, none⟩ 1 1 [.iface 53 x] rfl rfl (by exact one_new' (by simp)) (by simp [Value.oneCell']) (by decide) (by decide) (by simp) ?_))
  intro v3 w3 o3 k3 _
  obtain ⟨a3, l3, c3, rfl⟩ := owns_slice o3
  have s0 := old_cell k3 (past_set (o := 4) (by decide) r0)
  have s5 := old_cell k3 (past_set (o := 4) (by decide) r5)
  have sf5 := old_frozen k3 (by simpa using hS2) (past_set_f (o := 4) rf5)
  have K3 : Hid (w.grownBy (w3.setCell ⟨S, 5, none⟩ (.slice a3 l3 c3)) (some S)) := grownBy_step (grownBy_step (grownBy_step K2.out (World.grownBy_alloc _ _ none) (.inl rfl)) k3 (.inl rfl)) (grownBy_setCell _ _ _ _) (.inr rfl)
  clear r0 r4 r5 rf4 rf5 o3 k3 K2
  go_wp2
  go_ret
  exact ⟨rfl, K3.out⟩

set_option maxHeartbeats 1000000 in
set_option maxRecDepth 100000 in
theorem readable (S : Nat) (app ans rd : Bool) (x : Value) (w : World) (hs : Site w S app ans rd) :
    Calls Yba.prog 35 #[.pointer (some ⟨S, 0, none⟩), .iface 53 x] w fun e w' => e = .returned (.bool rd) ∧ w.grownBy w' (some S) := by
  obtain ⟨i, hi, hz0, hz1, hz2⟩ := info_parts info3
  obtain ⟨i', hi', hz0', hz1', hz2'⟩ := info_parts info55
  have hS : S < w.heap.size := cell_lt hs.c0
  obtain ⟨g0, ga, gr, g3, g4, g5, gf⟩ := hs
  have gf3 := gf 3
  have gf4 := gf 4
  have gf5 := gf 5
  clear gf
  go_enter Yba.func35, Yba.ntmps35
  go_wp2_with (at_builtin; go_must (refine wpList_append_own _ rfl _ _ 26 rfl w.heap.size 3 i (.int .i64 0) 1 8 Yba.underlying26 hi hz0 hz1 hz2 rfl (by decide) _ _ _ rfl (World.ownsRow_nil _ _ _ _) ⟨w.heap.size, 0, none⟩ 1 1 [.int .i64 3] rfl rfl one_new (by simp [Value.oneCell']) (by decide) (by decide) (by simp) ?_))
  intro v1 w1 o1 k1 _
  obtain ⟨a1, l1, c1, rfl⟩ := owns_slice o1
  have q0 := old_cell k1 gr
  have q3 := old_cell k1 g3
  have q4 := old_cell k1 g4
  have q5 := old_cell k1 g5
  have qf3 := old_frozen k1 hS gf3
  have qf4 := old_frozen k1 hS gf4
  have qf5 := old_frozen k1 hS gf5
  have hS1 := cell_lt q0
  have K1 : Hid (w.grownBy (w1.setCell ⟨S, 3, none⟩ (.slice a1 l1 c1)) (some S)) := grownBy_step (grownBy_step (World.grownBy_alloc w _ _) k1 (.inl rfl)) (grownBy_setCell _ _ _ _) (.inr rfl)
  clear g0 ga gr g3 g4 g5 gf3 gf4 gf5 o1 k1
  go_wp2_with (at_builtin; go_must (refine wpList_append_own _ rfl _ _ 26 rfl w1.heap.size 3 i (.int .i64 0) 1 8 Yba.underlying26 hi hz0 hz1 hz2 rfl (by decide) _ _ _ rfl (World.ownsRow_nil _ _ _ _) ⟨w1.heap.size, 0, none⟩ 1 1 [.int .i64 0] rfl rfl (by exact one_new' (by simp)) (by simp [Value.oneCell']) (by decide) (by decide) (by simp) ?_))
  intro v2 w2 o2 k2 _
  obtain ⟨a2, l2, c2, rfl⟩ := owns_slice o2
  have r0 := old_cell k2 (past_set (o := 3) (by decide) q0)
  have r4 := old_cell k2 (past_set (o := 3) (by decide) q4)
  have r5 := old_cell k2 (past_set (o := 3) (by decide) q5)
  have rf4 := old_frozen k2 (by simpa using hS1) (past_set_f (o := 3) qf4)
  have rf5 := old_frozen k2 (by simpa using hS1) (past_set_f (o := 3) qf5)
  have hS2 := cell_lt r0
  have K2 : Hid (w.grownBy (w2.setCell ⟨S, 4, none⟩ (.slice a2 l2 c2)) (some S)) := grownBy_step (grownBy_step (grownBy_step K1.out (World.grownBy_alloc _ _ none) (.inl rfl)) k2 (.inl rfl)) (grownBy_setCell _ _ _ _) (.inr rfl)
  clear q0 q3 q4 q5 qf3 qf4 qf5 o2 k2 K1
  go_wp2_with (at_builtin; go_must (refine wpList_append_own _ rfl _ _ 27 rfl w2.heap.size 55 i' .nilIface 1 16 Yba.underlying27 hi' hz0' hz1' hz2' rfl (by decide) _ _ _ rfl (World.ownsRow_nil _ _ _ _) ⟨w2.heap.size, 0, none⟩ 1 1 [.iface 53 x] rfl rfl (by exact one_new' (by simp)) (by simp [Value.oneCell']) (by decide) (by decide) (by simp) ?_))
  intro v3 w3 o3 k3 _
  obtain ⟨a3, l3, c3, rfl⟩ := owns_slice o3
  have s0 := old_cell k3 (past_set (o := 4) (by decide) r0)
  have s5 := old_cell k3 (past_set (o := 4) (by decide) r5)
  have sf5 := old_frozen k3 (by simpa using hS2) (past_set_f (o := 4) rf5)
  have K3 : Hid (w.grownBy (w3.setCell ⟨S, 5, none⟩ (.slice a3 l3 c3)) (some S)) := grownBy_step (grownBy_step (grownBy_step K2.out (World.grownBy_alloc _ _ none) (.inl rfl)) k3 (.inl rfl)) (grownBy_setCell _ _ _ _) (.inr rfl)
  clear r0 r4 r5 rf4 rf5 o3 k3 K2
  go_wp2
  go_ret
  exact ⟨rfl, K3.out⟩

end Go.Proofs.Ybulkbacs
