import Derived.Test.YbulkbabqNatB
import Derived.Deep.OwnRows
namespace Go.Proofs.Ybulkbabq
open Go.ChangeShapes Go.WideShapes Go.ChangeAt Go.RowKit
set_option linter.unusedVariables false

/-- The words of a number, least first. -/
def words (N : Int) : List Value := if N = 0 then [] else if N < 18446744073709551616 then [.int .u64 N] else [.int .u64 (lo N), .int .u64 (hi N)]
def Nt (w : World) (B : Nat) (v : Value) (N : Int) : Prop := w.ownsRow B 55 1 v (words N).length (words N)

/-- A row of words of the call's own, at its block's head. -/
structure Rw (w : World) (B g cap : Nat) (cur : Array Value) : Prop where
  base : B ≤ g
  heap : w.heap[g]? = some (.cells cur 55 (0, 0))
  size : cur.size = cap
  max : cap ≤ maxLen

theorem Rw.own {w : World} {B g cap : Nat} {cur : Array Value} (h : Rw w B g cap cur) {k : Nat} {xs : List Value} (hk : k ≤ cap) (hx : cur.toList.take k = xs) : w.ownsRow B 55 1 (.slice (some ⟨g, 0, none⟩) k cap) k xs := by
  have hl : xs.length = k := by
    rw [← hx, List.length_take, Array.length_toList, h.size]
    omega
  exact ⟨by omega, .inr ⟨g, cap, cur, rfl, h.base, h.heap, hk, h.max, by rw [h.size]; omega, by simpa using hx⟩⟩
theorem Rw.cell {w : World} {B g cap : Nat} {cur : Array Value} (h : Rw w B g cap cur) {o : Nat} {v : Value} (hv : cur[o]? = some v) : w.cell? ⟨g, o, none⟩ = some v := by simp [World.cell?, h.heap, hv]
theorem Rw.frozen {w : World} {B g cap : Nat} {cur : Array Value} (h : Rw w B g cap cur) (o : Nat) : w.frozen? ⟨g, o, none⟩ = false := frozen_of_row w g o cur 55 h.heap
theorem Rw.set {w w' : World} {B g cap : Nat} {cur : Array Value} (h : Rw w B g cap cur) {o : Nat} {v : Value} (e : Eqv (w.setCell ⟨g, o, none⟩ v) w') : Rw w' B g cap (cur.setIfInBounds o v) :=
  ⟨h.base, by rw [e.heap]; exact heap_setCell_same w g o cur 55 v h.heap, by simpa using h.size, h.max⟩
theorem Rw.other {w w' : World} {B g cap p o : Nat} {cur : Array Value} {v : Value} (h : Rw w B g cap cur) (hne : g ≠ p) (e : Eqv (w.setCell ⟨p, o, none⟩ v) w') : Rw w' B g cap cur :=
  ⟨h.base, by rw [e.heap]; exact (heap_setCell_other w ⟨p, o, none⟩ g v hne).trans h.heap, h.size, h.max⟩
theorem Eqv.grown {w w' : World} {g o : Nat} {v : Value} (e : Eqv (w.setCell ⟨g, o, none⟩ v) w') : w.grownBy w' (some g) :=
  ⟨e.os, e.tape, e.output, by rw [e.heap]; simp, fun k _ hk => by rw [e.heap]; exact heap_setCell_other w ⟨g, o, none⟩ k v (fun h => hk (by rw [h]))⟩
theorem Rw.kept {w w' : World} {B g cap : Nat} {cur : Array Value} {row : Option Nat} (h : Rw w B g cap cur) (hg : w.grownBy w' row) (hne : some g ≠ row) : Rw w' B g cap cur := by
  refine ⟨h.base, ?_, h.size, h.max⟩
  rw [hg.block g ?_ hne]
  · exact h.heap
  · have := h.heap
    refine Classical.byContradiction fun hb => ?_
    have hn : w.heap[g]? = none := by simp; omega
    rw [hn] at this
    cases this

theorem nt_zero {w : World} {B : Nat} {v : Value} (h : Nt w B v 0) : ∃ ao cap, v = .slice ao 0 cap := by
  have := owns_isSlice h
  simpa [words] using this
theorem owns_rw {w : World} {B n : Nat} {v : Value} {xs : List Value} (h : w.ownsRow B 55 1 v n xs) (hn : 0 < n) : ∃ g cap cur, v = .slice (some ⟨g, 0, none⟩) n cap ∧ n ≤ cap ∧ Rw w B g cap cur ∧ cur.toList.take n = xs := by
  obtain ⟨h0, h1 | ⟨g, cap, cur, hv, hb, hh, hnc, hcm, hs, ht⟩⟩ := h
  · omega
  · exact ⟨g, cap, cur, hv, hnc, ⟨hb, hh, by omega, hcm⟩, by simpa using ht⟩
theorem take_get {cur : Array Value} {n : Nat} {xs : List Value} (h : cur.toList.take n = xs) {o : Nat} {v : Value} (hv : xs[o]? = some v) : cur[o]? = some v := by
  subst h
  rw [List.getElem?_take] at hv
  split at hv
  · simpa using hv
  · cases hv
theorem nt_one {w : World} {B : Nat} {v : Value} {N : Int} (h : Nt w B v N) (h0 : 0 < N) (h1 : N < 18446744073709551616) : ∃ g cap cur, v = .slice (some ⟨g, 0, none⟩) 1 cap ∧ 1 ≤ cap ∧ Rw w B g cap cur ∧ cur[0]? = some (.int .u64 N) := by
  have hw : words N = [.int .u64 N] := by unfold words; rw [if_neg (by omega), if_pos h1]
  unfold Nt at h
  rw [hw] at h
  obtain ⟨g, cap, cur, hv, hc, hr, ht⟩ := owns_rw h (by simp)
  exact ⟨g, cap, cur, hv, hc, hr, take_get ht (by simp)⟩
theorem nt_two {w : World} {B : Nat} {v : Value} {N : Int} (h : Nt w B v N) (h1 : 18446744073709551616 ≤ N) : ∃ g cap cur, v = .slice (some ⟨g, 0, none⟩) 2 cap ∧ 2 ≤ cap ∧ Rw w B g cap cur ∧ cur[0]? = some (.int .u64 (lo N)) ∧ cur[1]? = some (.int .u64 (hi N)) := by
  have hw : words N = [.int .u64 (lo N), .int .u64 (hi N)] := by unfold words; rw [if_neg (by omega), if_neg (by omega)]
  unfold Nt at h
  rw [hw] at h
  obtain ⟨g, cap, cur, hv, hc, hr, ht⟩ := owns_rw h (by simp)
  exact ⟨g, cap, cur, hv, hc, hr, take_get ht (by simp), take_get ht (by simp)⟩

theorem rw_new (w : World) (B : Nat) (cur : Array Value) (hB : B ≤ w.heap.size) (hm : cur.size ≤ maxLen) : Rw (w.alloc (.cells cur 55)) B w.heap.size cur.size cur :=
  ⟨hB, heap_alloc_new w _, rfl, hm⟩

theorem info55 : (Yba.prog.info? 55).map (fun i => (i.zero, i.size, i.bytes)) = some (some (.int .u64 0), 1, 8) := by kernel_rfl
theorem mk37 (l c : Nat) (w : World) (hlc : l ≤ c) (hc : c ≤ 8) : (Instr.makeSlice 37 (.int .i64 (l : Nat)) (.int .i64 (c : Nat))).run Yba.prog w = .ok (.slice (some ⟨w.heap.size, 0, none⟩) l c) (w.alloc (.cells (madeCells #[.int .u64 0] c) 55)) := by
  obtain ⟨i, hi, hz0, hz1, hz2⟩ := info_parts info55
  have hr := run_make (P := Yba.prog) w 37 55 i _ Yba.underlying37 hi hz0 .i64 .i64 l c (by omega) (by omega) (by rw [hz2]; omega) (by omega)
  simp only [Int.toNat_natCast, hz1, Nat.mul_one] at hr
  exact hr
theorem made1 : madeCells #[Value.int .u64 0] 1 = #[.int .u64 0] := by kernel_rfl
theorem made6 : madeCells #[Value.int .u64 0] 6 = #[.int .u64 0, .int .u64 0, .int .u64 0, .int .u64 0, .int .u64 0, .int .u64 0] := by kernel_rfl
theorem made7 : madeCells #[Value.int .u64 0] 7 = #[.int .u64 0, .int .u64 0, .int .u64 0, .int .u64 0, .int .u64 0, .int .u64 0, .int .u64 0] := by kernel_rfl

/-- make: room for k words: where it was, or in a new block. -/
def Made (w : World) (B : Nat) (zv : Value) (k : Nat) (e : Ending) (w' : World) : Prop :=
  ∃ g cap cur, e = .returned (.slice (some ⟨g, 0, none⟩) k cap) ∧ Rw w' B g cap cur ∧ k ≤ cap ∧ w.grownBy w' none ∧ (zv.ownBlock = some g ∨ w.heap.size ≤ g)

set_option maxHeartbeats 1000000 in
set_option maxRecDepth 100000 in
theorem make_any (B k nz : Nat) (zv : Value) (zs : List Value) (w : World) (hB : B ≤ w.heap.size) (hk : k = 1 ∨ k = 2 ∨ k = 3) (hz : w.ownsRow B 55 1 zv nz zs) :
    Calls Yba.prog 31 #[zv, .int .i64 k] w fun e w' => Made w B zv k e w' := by
  have m1 : ∀ w : World, (Instr.makeSlice 37 (.int .i64 1) (.int .i64 1)).run Yba.prog w = _ := fun w => mk37 1 1 w (by omega) (by omega)
  have m2 : ∀ w : World, (Instr.makeSlice 37 (.int .i64 2) (.int .i64 6)).run Yba.prog w = _ := fun w => mk37 2 6 w (by omega) (by omega)
  have m3 : ∀ w : World, (Instr.makeSlice 37 (.int .i64 3) (.int .i64 7)).run Yba.prog w = _ := fun w => mk37 3 7 w (by omega) (by omega)
  rw [made1] at m1
  rw [made6] at m2
  rw [made7] at m3
  obtain ⟨_, ⟨rfl, rfl⟩ | ⟨g, cap, cur, rfl, hb, hh, hnc, hcm, hs, ht⟩⟩ := hz
  · rcases hk with rfl | rfl | rfl
    · go_enter Yba.func31, Yba.ntmps31
      go_wp2
      go_ret
      exact ⟨_, 1, _, rfl, rw_new w B _ hB (by simp [maxLen]), by simp, World.grownBy_alloc w _ none, .inr (Nat.le_refl _)⟩
    · go_enter Yba.func31, Yba.ntmps31
      go_wp2
      go_ret
      exact ⟨_, 6, _, rfl, rw_new w B _ hB (by simp [maxLen]), by simp, World.grownBy_alloc w _ none, .inr (Nat.le_refl _)⟩
    · go_enter Yba.func31, Yba.ntmps31
      go_wp2
      go_ret
      exact ⟨_, 7, _, rfl, rw_new w B _ hB (by simp [maxLen]), by simp, World.grownBy_alloc w _ none, .inr (Nat.le_refl _)⟩
  · have hr : Rw w B g cap cur := ⟨hb, hh, by omega, hcm⟩
    have HR := hide hr
    clear hr ht hs hh
    by_cases hkc : k ≤ cap
    · have d0 : decide ((k : Int) ≤ (cap : Int)) = true := by simp; omega
      go_enter Yba.func31, Yba.ntmps31
      go_wp2
      go_ret
      exact ⟨g, cap, cur, rfl, HR.out, hkc, World.grownBy.refl _ _, .inl rfl⟩
    · have d0 : decide ((k : Int) ≤ (cap : Int)) = false := by simp; omega
      rcases hk with rfl | rfl | rfl
      · go_enter Yba.func31, Yba.ntmps31
        go_wp2
        go_ret
        exact ⟨_, 1, _, rfl, rw_new w B _ hB (by simp [maxLen]), by simp, World.grownBy_alloc w _ none, .inr (Nat.le_refl _)⟩
      · go_enter Yba.func31, Yba.ntmps31
        go_wp2
        go_ret
        exact ⟨_, 6, _, rfl, rw_new w B _ hB (by simp [maxLen]), by simp, World.grownBy_alloc w _ none, .inr (Nat.le_refl _)⟩
      · go_enter Yba.func31, Yba.ntmps31
        go_wp2
        go_ret
        exact ⟨_, 7, _, rfl, rw_new w B _ hB (by simp [maxLen]), by simp, World.grownBy_alloc w _ none, .inr (Nat.le_refl _)⟩

theorem take1 {cur : Array Value} {a : Value} (h : cur[0]? = some a) : cur.toList.take 1 = [a] := by
  obtain ⟨l⟩ := cur
  match l, h with
  | x :: r, h => simp at h; simp [h]
theorem take2 {cur : Array Value} {a b : Value} (h : cur[0]? = some a) (h' : cur[1]? = some b) : cur.toList.take 2 = [a, b] := by
  obtain ⟨l⟩ := cur
  match l, h, h' with
  | x :: y :: r, h, h' => simp at h h'; simp [h, h']
theorem nt_mk0 {w : World} {B g cap : Nat} {cur : Array Value} (h : Rw w B g cap cur) : Nt w B (.slice (some ⟨g, 0, none⟩) 0 cap) 0 := by
  have := h.own (k := 0) (xs := []) (Nat.zero_le _) (by simp)
  simpa [Nt, words] using this
theorem nt_mk1 {w : World} {B g cap : Nat} {cur : Array Value} {N : Int} (h : Rw w B g cap cur) (h0 : cur[0]? = some (.int .u64 N)) (n0 : 0 < N) (n1 : N < 18446744073709551616) (hc : 1 ≤ cap) : Nt w B (.slice (some ⟨g, 0, none⟩) 1 cap) N := by
  have hw : words N = [.int .u64 N] := by unfold words; rw [if_neg (by omega), if_pos n1]
  unfold Nt
  rw [hw]
  exact h.own hc (take1 h0)
theorem nt_mk2 {w : World} {B g cap : Nat} {cur : Array Value} {N : Int} (h : Rw w B g cap cur) (h0 : cur[0]? = some (.int .u64 (lo N))) (h1 : cur[1]? = some (.int .u64 (hi N))) (n1 : 18446744073709551616 ≤ N) (hc : 2 ≤ cap) : Nt w B (.slice (some ⟨g, 0, none⟩) 2 cap) N := by
  have hw : words N = [.int .u64 (lo N), .int .u64 (hi N)] := by unfold words; rw [if_neg (by omega), if_neg (by omega)]
  unfold Nt
  rw [hw]
  exact h.own hc (take2 h0 h1)
theorem set_get {cur : Array Value} {o : Nat} {v : Value} (h : o < cur.size) : (cur.setIfInBounds o v)[o]? = some v := by simp [h]
theorem set_get_other {cur : Array Value} {o o' : Nat} {v : Value} (h : o' ≠ o) : (cur.setIfInBounds o' v)[o]? = cur[o]? := by simp [h]
theorem Eqv.refl (w : World) : Eqv w w := ⟨rfl, rfl, rfl, rfl⟩
theorem made_row {w w' : World} {zv : Value} {g : Nat} (hz : zv.ownBlock = some g ∨ w.heap.size ≤ g) (h : w.grownBy w' none) {w2 : World} (h2 : w'.grownBy w2 (some g)) : w.grownBy w2 zv.ownBlock := by
  refine ⟨h2.os.trans h.os, h2.tape.trans h.tape, h2.output.trans h.output, Nat.le_trans h.size h2.size, fun k hk hne => ?_⟩
  rw [h2.block k (Nat.lt_of_lt_of_le hk h.size) ?_, h.block k hk (by simp)]
  intro e
  injection e with e
  rcases hz with hz | hz
  · exact hne (by rw [hz, e])
  · omega

/-- What add, sub, set hand back. -/
def Gives (w : World) (B : Nat) (zv : Value) (N : Int) (e : Ending) (w' : World) : Prop := ∃ v', e = .returned v' ∧ Nt w' B v' N ∧ w.grownBy w' zv.ownBlock

set_option maxHeartbeats 1000000 in
set_option maxRecDepth 100000 in
theorem set_any (B nz : Nat) (zv xv : Value) (zs : List Value) (X : Int) (w : World) (hB : B ≤ w.heap.size) (hz : w.ownsRow B 55 1 zv nz zs) (hx : Nt w B xv X) (x0 : 0 < X) (x1 : X < 340282366920938463463374607431768211456) :
    Calls Yba.prog 30 #[zv, xv] w fun e w' => Gives w B zv X e w' := by
  by_cases h1 : X < 18446744073709551616
  · obtain ⟨p, cx, curx, rfl, hcx, hrx, g0⟩ := nt_one hx x0 h1
    have HH := hide (And.intro hz (And.intro hrx (And.intro g0 hx)))
    clear hz hrx g0 hx
    go_enter Yba.func30, Yba.ntmps30
    go_wp2_with (go_at_call 31; refine (make_any B 1 nz zv zs w hB (.inl rfl) HH.out.1).mono ?_; rintro en w1 ⟨g, cap, cur, rfl, hr, hkc, hgr, hloc⟩)
    have hrx1 := HH.out.2.1.kept hgr (by simp)
    have hcp : ∀ ty, (Builtin.copy_ #[37, 37] ty #[.slice (some ⟨g, 0, none⟩) 1 cap, .slice (some ⟨p, 0, none⟩) 1 cx]).run Yba.prog w1 = .ok (.int .i64 1) (w1.setCell ⟨g, 0, none⟩ (.int .u64 X)) := fun ty => by
      have := run_copy_cells (P := Yba.prog) w1 37 37 ty 55 g 0 1 cap ⟨p, 0, none⟩ 1 cx [.int .u64 X] Yba.underlying37 sz55 rfl (fun j v hj => by
          match j, hj with
          | 0, hj => simp at hj; subst hj; simpa [Addr.add] using hrx1.cell HH.out.2.2.1) (fun j hj => by
          have hj' : j = 0 := by simp at hj; omega
          subst hj'
          rw [hr.cell (o := 0) (v := cur[0]'(by have := hr.size; omega)) (by simp)]; rfl) (fun j hj => hr.frozen _) (by simp [Value.oneCell'])
      simpa [World.setCells, goInt] using this
    have HR := hide (And.intro hr (And.intro hgr hloc))
    clear hr hgr hloc hrx1
    go_wp2_with fail
    rw [hcp]
    go_wp2
    go_ret
    obtain ⟨hr, hgr, hloc⟩ := HR.out
    have e := Eqv.refl (w1.setCell ⟨g, 0, none⟩ (.int .u64 X))
    exact ⟨_, rfl, nt_mk1 (hr.set e) (set_get (by have := hr.size; omega)) x0 h1 hkc, made_row hloc hgr e.grown⟩
  · obtain ⟨p, cx, curx, rfl, hcx, hrx, g0, g1⟩ := nt_two hx (by omega)
    have HH := hide (And.intro hz (And.intro hrx (And.intro g0 g1)))
    clear hz hrx g0 g1 hx
    go_enter Yba.func30, Yba.ntmps30
    go_wp2_with (go_at_call 31; refine (make_any B 2 nz zv zs w hB (.inr (.inl rfl)) HH.out.1).mono ?_; rintro en w1 ⟨g, cap, cur, rfl, hr, hkc, hgr, hloc⟩)
    have hrx1 := HH.out.2.1.kept hgr (by simp)
    have hcp : ∀ ty, (Builtin.copy_ #[37, 37] ty #[.slice (some ⟨g, 0, none⟩) 2 cap, .slice (some ⟨p, 0, none⟩) 2 cx]).run Yba.prog w1 = .ok (.int .i64 2) ((w1.setCell ⟨g, 0, none⟩ (.int .u64 (lo X))).setCell ⟨g, 1, none⟩ (.int .u64 (hi X))) := fun ty => by
      have := run_copy_cells (P := Yba.prog) w1 37 37 ty 55 g 0 2 cap ⟨p, 0, none⟩ 2 cx [.int .u64 (lo X), .int .u64 (hi X)] Yba.underlying37 sz55 rfl (fun j v hj => by
          match j, hj with
          | 0, hj => simp at hj; subst hj; simpa [Addr.add] using hrx1.cell HH.out.2.2.1
          | 1, hj => simp at hj; subst hj; simpa [Addr.add] using hrx1.cell HH.out.2.2.2) (fun j hj => by
          have hj' : j < cur.size := by simp at hj; have := hr.size; omega
          rw [Nat.zero_add, hr.cell (o := j) (v := cur[j]) (by simp [hj'])]; rfl) (fun j hj => hr.frozen _) (by simp [Value.oneCell'])
      simpa [World.setCells, goInt] using this
    have HR := hide (And.intro hr (And.intro hgr hloc))
    clear hr hgr hloc hrx1
    go_wp2_with fail
    rw [hcp]
    go_wp2
    go_ret
    obtain ⟨hr, hgr, hloc⟩ := HR.out
    have e0 := Eqv.refl (w1.setCell ⟨g, 0, none⟩ (.int .u64 (lo X)))
    have e1 := Eqv.refl ((w1.setCell ⟨g, 0, none⟩ (.int .u64 (lo X))).setCell ⟨g, 1, none⟩ (.int .u64 (hi X)))
    have hs := hr.size
    exact ⟨_, rfl, nt_mk2 ((hr.set e0).set e1) (by rw [set_get_other (by omega)]; exact set_get (by omega)) (set_get (by simp; omega)) (by omega) hkc, made_row hloc hgr (e0.grown.trans e1.grown)⟩
end Go.Proofs.Ybulkbabq
