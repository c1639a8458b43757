import Derived.Test.YbulkbabqNatF
namespace Go.Proofs.Ybulkbabq
open Go.ChangeShapes Go.WideShapes Go.ChangeAt Go.RowKit
set_option linter.unusedVariables false

/-- A big.Int at p: its sign's mark, its words. -/
structure Mag (w : World) (B p : Nat) (s : Bool) (v : Value) (A : Int) : Prop where
  base : B ≤ p
  heap : w.heap[p]? = some (.cells #[.bool s, v] 39 (0, 0))
  nat : Nt w B v A
theorem Mag.c0 {w : World} {B p : Nat} {s : Bool} {v : Value} {A : Int} (h : Mag w B p s v A) : w.cell? ⟨p, 0, none⟩ = some (.bool s) := by simp [World.cell?, h.heap]
theorem Mag.c1 {w : World} {B p : Nat} {s : Bool} {v : Value} {A : Int} (h : Mag w B p s v A) : w.cell? ⟨p, 1, none⟩ = some v := by simp [World.cell?, h.heap]
theorem Mag.fz {w : World} {B p : Nat} {s : Bool} {v : Value} {A : Int} (h : Mag w B p s v A) (o : Nat) : w.frozen? ⟨p, o, none⟩ = false := frozen_of_row w p o _ 39 h.heap
theorem Mag.lt {w : World} {B p : Nat} {s : Bool} {v : Value} {A : Int} (h : Mag w B p s v A) : p < w.heap.size := cell_lt h.c0
theorem own_ne {w : World} {B p n : Nat} {v : Value} {xs : List Value} {c : Array Value} {f : Nat × Nat} (h : w.ownsRow B 55 1 v n xs) (hp : w.heap[p]? = some (.cells c 39 f)) : some p ≠ v.ownBlock := by
  obtain ⟨_, ⟨rfl, _⟩ | ⟨g, cap, cur, rfl, _, hh, _⟩⟩ := h
  · simp [Value.ownBlock]
  · intro e
    simp [Value.ownBlock] at e
    subst e
    rw [hh] at hp
    injection hp with hp
    injection hp with _ hp
    cases hp
theorem Mag.heap_kept {w w' : World} {B p : Nat} {s : Bool} {v : Value} {A : Int} (h : Mag w B p s v A) {row : Option Nat} (hg : w.grownBy w' row) (hne : some p ≠ row) : w'.heap[p]? = some (.cells #[.bool s, v] 39 (0, 0)) := (hg.block p h.lt hne).trans h.heap
theorem own_base {w : World} {B n : Nat} {v : Value} {xs : List Value} (h : w.ownsRow B 55 1 v n xs) : ∀ k, v.ownBlock = some k → B ≤ k := fun k hk => (h.lt k hk).1
theorem Nt.set39 {w : World} {B p o : Nat} {v : Value} {A : Int} {c : Array Value} {u : Value} (h : Nt w B v A) (hp : w.heap[p]? = some (.cells c 39 (0, 0))) : Nt (w.setCell ⟨p, o, none⟩ u) B v A := by
  refine World.ownsRow.kept h (Eqv.refl (w.setCell ⟨p, o, none⟩ u)).grown ?_
  exact .inr (fun e => own_ne h hp e.symm)

theorem Nt.eqv {w w' : World} {B : Nat} {v : Value} {A : Int} (h : Nt w B v A) (e : Eqv w w') : Nt w' B v A := by
  unfold Nt World.ownsRow at *
  rw [e.heap]
  exact h
theorem Mag.eqv {w w' : World} {B p : Nat} {s : Bool} {v : Value} {A : Int} (h : Mag w B p s v A) (e : Eqv w w') : Mag w' B p s v A :=
  ⟨h.base, by rw [e.heap]; exact h.heap, h.nat.eqv e⟩
theorem Eqv.below {w w' : World} (e : Eqv w w') (B : Nat) : Below B w w' := ⟨e.os, e.tape, e.output, by rw [e.heap]; exact Nat.le_refl _, fun k _ => by rw [e.heap]⟩
theorem Mag.cell_kept {w w' : World} {B p o : Nat} {s : Bool} {v u : Value} {A : Int} (h : Mag w B p s v A) {row : Option Nat} (hg : w.grownBy w' row) (hne : some p ≠ row) (hu : w.cell? ⟨p, o, none⟩ = some u) : w'.cell? ⟨p, o, none⟩ = some u :=
  (World.cell?_of_block (w := w) (a := ⟨p, o, none⟩) (hg.block p h.lt hne)).trans hu

theorem mag_end {w W w1 : World} {B zp : Nat} {sz : Bool} {zv v' : Value} {Z M : Int} (eW : Eqv w W) (mz : Mag W B zp sz zv Z) (hB : B ≤ W.heap.size) (hg : W.grownBy w1 zv.ownBlock) (hn : Nt w1 B v' M) (b : Bool) :
    (∃ u, Mag ((w1.setCell ⟨zp, 1, none⟩ v').setCell ⟨zp, 0, none⟩ (.bool b)) B zp b u M) ∧ Below B w ((w1.setCell ⟨zp, 1, none⟩ v').setCell ⟨zp, 0, none⟩ (.bool b)) := by
  have h1 := mz.heap_kept hg (own_ne mz.nat mz.heap)
  have h2 := heap_setCell_same w1 zp 1 _ 39 v' h1
  have h3 := heap_setCell_same _ zp 0 _ 39 (.bool b) h2
  refine ⟨⟨v', mz.base, by rw [h3]; rfl, (hn.set39 h1).set39 h2⟩, ?_⟩
  exact (((eW.below B).grown hg hB (fun k hk => own_base mz.nat k hk)).setCell mz.base _).setCell mz.base _
theorem len_case (M : Int) (h : 0 ≤ M) : (decide (0 < M) = true ∧ decide ((0 : Int) < ((words M).length : Int)) = true ∧ decide (0 < (words M).length) = true) ∨ (decide (0 < M) = false ∧ decide ((0 : Int) < ((words M).length : Int)) = false ∧ decide (0 < (words M).length) = false) := by
  have := words_len M h
  by_cases h0 : 0 < M
  · left
    simp only [decide_eq_true_eq]
    omega
  · right
    simp only [decide_eq_false_iff_not]
    omega

set_option maxHeartbeats 2000000 in
set_option maxRecDepth 100000 in
theorem int_add1 (B zp xp yp : Nat) (sz s : Bool) (zv xv yv : Value) (Z A C : Int) (w : World) (hB : B ≤ w.heap.size) (mz : Mag w B zp sz zv Z) (mx : Mag w B xp s xv A) (my : Mag w B yp s yv C) (hzx : xp ≠ zp) (hzy : yp ≠ zp)
    (x0 : 0 ≤ A) (x1 : A < 170141183460469231731687303715884105728) (y0 : 0 ≤ C) (y1 : C < 18446744073709551616) :
    Calls Yba.prog 11 #[.pointer (some ⟨zp, 0, none⟩), .pointer (some ⟨xp, 0, none⟩), .pointer (some ⟨yp, 0, none⟩)] w fun e w' => e = .returned (.pointer (some ⟨zp, 0, none⟩)) ∧ (∃ u, Mag w' B zp (decide (0 < A + C) && s) u (A + C)) ∧ Below B w w' := by
  have HH := hide (And.intro mz (And.intro mx my))
  have a0 := mx.c0
  have b0 := my.c0
  clear mz mx my
  go_enter Yba.func11, Yba.ntmps11
  go_wp2_with fail
  go_quiet (fail)
  go_wp2_with fail
  have eW : Eqv w (w.drewN nq) := ⟨rfl, rfl, rfl, rfl⟩
  obtain ⟨mz0, mx0, my0⟩ := HH.out
  have mz := mz0.eqv eW
  have mx := mx0.eqv eW
  have my := my0.eqv eW
  have hBW : B ≤ (w.drewN nq).heap.size := hB
  have HEW := hide eW
  clear eW mz0 mx0 my0 HH a0 b0
  generalize w.drewN nq = W at *
  have hX := add_any B _ zv xv yv _ A C W.drew hBW mz.nat mx.nat my.nat x0 x1 y0 y1
  have H := hide (And.intro mz (And.intro mx (And.intro my hX)))
  have a1 := mx.c1
  have b1 := my.c1
  have z1 := mz.c1
  clear mz mx my hX
  go_region_with
    (first | (go_at_call 23; refine H.out.2.2.2.mono ?_; rintro en w1 ⟨v', rfl, hn, hg⟩; obtain ⟨ao, cp, rfl⟩ := owns_isSlice hn; have hg' : W.grownBy w1 zv.ownBlock := ⟨hg.os, hg.tape, hg.output, hg.size, hg.block⟩; have fc := H.out.1.cell_kept hg' (own_ne H.out.1.nat H.out.1.heap) z1; have ff : w1.frozen? ⟨zp, 1, none⟩ = false := (frozen_of_row w1 zp 1 _ 39 (H.out.1.heap_kept hg' (own_ne H.out.1.nat H.out.1.heap)))))
  all_goals
    have fc0 := H.out.1.cell_kept hg' (own_ne H.out.1.nat H.out.1.heap) H.out.1.c0
    have ff0 : w1.frozen? ⟨zp, 0, none⟩ = false := (frozen_of_row w1 zp 0 _ 39 (H.out.1.heap_kept hg' (own_ne H.out.1.nat H.out.1.heap)))
    have HX := hide (And.intro hg' hn)
    have HL := hide (len_case (A + C) (by omega))
    clear hg hg' hn
    generalize (words (A + C)).length = m at *
    rcases HL.out with ⟨l0, l1, l2⟩ | ⟨l0, l1, l2⟩
    · have L0 := hide l0
      clear l0
      go_wp2
      go_ret
      have := mag_end HEW.out H.out.1 hBW HX.out.1 HX.out.2 (s)
      exact ⟨rfl, by rw [L0.out]; simpa using this.1, by simpa using this.2⟩
    · have L0 := hide l0
      clear l0
      go_wp2
      go_ret
      have := mag_end HEW.out H.out.1 hBW HX.out.1 HX.out.2 false
      exact ⟨rfl, by rw [L0.out]; simpa using this.1, this.2⟩

end Go.Proofs.Ybulkbabq
