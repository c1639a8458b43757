import Derived.Test.YbulkbabqIntB
import Derived.Test.YbulkbabqIntC
import Derived.Test.YbulkbabqIntD
import Derived.Test.YbulkbabqIntE
import Derived.Test.YbulkbabqIntF
import Derived.Test.YbulkbabqIntG
namespace Go.Proofs.Ybulkbabq
open Go.ChangeShapes Go.WideShapes Go.ChangeAt Go.RowKit
set_option linter.unusedVariables false

theorem int_of {w : World} {B p : Nat} {b : Bool} {v : Value} {M N : Int} (h : Mag w B p b v M) (hb : b = decide (N < 0)) (hm : M = ab N) : IntAt w B p N := ⟨v, by rw [← hb, ← hm]; exact h⟩
theorem ab_pos {N : Int} (h : ¬ N < 0) : ab N = N := by unfold ab; rw [if_neg h]
theorem ab_neg {N : Int} (h : N < 0) : ab N = -N := by unfold ab; rw [if_pos h]
theorem and_t {p : Prop} [Decidable p] {q : Prop} [Decidable q] (h : p ↔ q) : (decide p && true) = decide q := by simp [h]

theorem iadd_any (B zp xp yp : Nat) (sz : Bool) (zv : Value) (Z X Y : Int) (w : World) (hB : B ≤ w.heap.size) (mz : Mag w B zp sz zv Z) (hx : IntAt w B xp X) (hy : IntAt w B yp Y) (hzx : xp ≠ zp) (hzy : yp ≠ zp)
    (x0 : -9223372036854775808 ≤ X) (x1 : X ≤ 9223372036854775808) (y0 : -9223372036854775808 ≤ Y) (y1 : Y ≤ 9223372036854775808) :
    Calls Yba.prog 11 #[.pointer (some ⟨zp, 0, none⟩), .pointer (some ⟨xp, 0, none⟩), .pointer (some ⟨yp, 0, none⟩)] w fun e w' => e = .returned (.pointer (some ⟨zp, 0, none⟩)) ∧ IntAt w' B zp (X + Y) ∧ Below B w w' := by
  obtain ⟨xv, mx⟩ := hx
  obtain ⟨yv, my⟩ := hy
  by_cases h1 : X < 0
  · by_cases h2 : Y < 0
    · rw [decide_eq_true h1, ab_neg h1] at mx
      rw [decide_eq_true h2, ab_neg h2] at my
      refine (int_add1 B zp xp yp sz true zv xv yv Z (-X) (-Y) w hB mz mx my hzx hzy (by omega) (by omega) (by omega) (by omega)).mono ?_
      rintro e w' ⟨rfl, ⟨u, hm⟩, hb⟩
      exact ⟨rfl, int_of hm (and_t (by omega)) (by rw [ab_neg (by omega)]; omega), hb⟩
    · rw [decide_eq_true h1, ab_neg h1] at mx
      rw [decide_eq_false h2, ab_pos h2] at my
      by_cases h3 : Y ≤ -X
      · refine (int_add2 B zp xp yp sz true zv xv yv Z (-X) Y w hB mz mx my hzx hzy (by omega) (by omega) (by omega) (by omega) h3).mono ?_
        rintro e w' ⟨rfl, ⟨u, hm⟩, hb⟩
        refine ⟨rfl, int_of hm (and_t (by omega)) ?_, hb⟩
        by_cases h4 : X + Y < 0
        · rw [ab_neg h4]; omega
        · rw [ab_pos h4]; omega
      · refine (int_add3 B zp xp yp sz true zv xv yv Z (-X) Y w hB mz mx my hzx hzy (by omega) (by omega) (by omega) (by omega) (by omega)).mono ?_
        rintro e w' ⟨rfl, ⟨u, hm⟩, hb⟩
        exact ⟨rfl, int_of hm (by rw [decide_eq_false (show ¬ X + Y < 0 by omega)]; simp) (by rw [ab_pos (by omega)]; omega), hb⟩
  · by_cases h2 : Y < 0
    · rw [decide_eq_false h1, ab_pos h1] at mx
      rw [decide_eq_true h2, ab_neg h2] at my
      by_cases h3 : -Y ≤ X
      · refine (int_add2 B zp xp yp sz false zv xv yv Z X (-Y) w hB mz mx my hzx hzy (by omega) (by omega) (by omega) (by omega) h3).mono ?_
        rintro e w' ⟨rfl, ⟨u, hm⟩, hb⟩
        exact ⟨rfl, int_of hm (by rw [decide_eq_false (show ¬ X + Y < 0 by omega)]; simp) (by rw [ab_pos (by omega)]; omega), hb⟩
      · refine (int_add3 B zp xp yp sz false zv xv yv Z X (-Y) w hB mz mx my hzx hzy (by omega) (by omega) (by omega) (by omega) (by omega)).mono ?_
        rintro e w' ⟨rfl, ⟨u, hm⟩, hb⟩
        exact ⟨rfl, int_of hm (and_t (by omega)) (by rw [ab_neg (by omega)]; omega), hb⟩
    · rw [decide_eq_false h1, ab_pos h1] at mx
      rw [decide_eq_false h2, ab_pos h2] at my
      refine (int_add1 B zp xp yp sz false zv xv yv Z X Y w hB mz mx my hzx hzy (by omega) (by omega) (by omega) (by omega)).mono ?_
      rintro e w' ⟨rfl, ⟨u, hm⟩, hb⟩
      exact ⟨rfl, int_of hm (by rw [decide_eq_false (show ¬ X + Y < 0 by omega)]; simp) (by rw [ab_pos (by omega)]), hb⟩

theorem isub_any (B zp yp : Nat) (X Y : Int) (w : World) (hB : B ≤ w.heap.size) (hx : IntAt w B zp X) (hy : IntAt w B yp Y) (hzy : yp ≠ zp)
    (x0 : -18446744073709551616 ≤ X) (x1 : X ≤ 18446744073709551616) (y0 : -9223372036854775808 ≤ Y) (y1 : Y ≤ 9223372036854775808) :
    Calls Yba.prog 13 #[.pointer (some ⟨zp, 0, none⟩), .pointer (some ⟨zp, 0, none⟩), .pointer (some ⟨yp, 0, none⟩)] w fun e w' => e = .returned (.pointer (some ⟨zp, 0, none⟩)) ∧ IntAt w' B zp (X - Y) ∧ Below B w w' := by
  obtain ⟨xv, mx⟩ := hx
  obtain ⟨yv, my⟩ := hy
  by_cases h1 : X < 0
  · by_cases h2 : Y < 0
    · rw [decide_eq_true h1, ab_neg h1] at mx
      rw [decide_eq_true h2, ab_neg h2] at my
      by_cases h3 : -Y ≤ -X
      · refine (int_sub2 B zp yp true xv yv (-X) (-Y) w hB mx my hzy (by omega) (by omega) (by omega) (by omega) h3).mono ?_
        rintro e w' ⟨rfl, ⟨u, hm⟩, hb⟩
        refine ⟨rfl, int_of hm (and_t (by omega)) ?_, hb⟩
        by_cases h4 : X - Y < 0
        · rw [ab_neg h4]; omega
        · rw [ab_pos h4]; omega
      · refine (int_sub3 B zp yp true xv yv (-X) (-Y) w hB mx my hzy (by omega) (by omega) (by omega) (by omega) (by omega)).mono ?_
        rintro e w' ⟨rfl, ⟨u, hm⟩, hb⟩
        exact ⟨rfl, int_of hm (by rw [decide_eq_false (show ¬ X - Y < 0 by omega)]; simp) (by rw [ab_pos (by omega)]; omega), hb⟩
    · rw [decide_eq_true h1, ab_neg h1] at mx
      rw [decide_eq_false h2, ab_pos h2] at my
      refine (int_sub1 B zp yp true xv yv (-X) Y w hB mx my hzy (by omega) (by omega) (by omega) (by omega)).mono ?_
      rintro e w' ⟨rfl, ⟨u, hm⟩, hb⟩
      exact ⟨rfl, int_of hm (and_t (by omega)) (by rw [ab_neg (by omega)]; omega), hb⟩
  · by_cases h2 : Y < 0
    · rw [decide_eq_false h1, ab_pos h1] at mx
      rw [decide_eq_true h2, ab_neg h2] at my
      refine (int_sub1 B zp yp false xv yv X (-Y) w hB mx my hzy (by omega) (by omega) (by omega) (by omega)).mono ?_
      rintro e w' ⟨rfl, ⟨u, hm⟩, hb⟩
      exact ⟨rfl, int_of hm (by rw [decide_eq_false (show ¬ X - Y < 0 by omega)]; simp) (by rw [ab_pos (by omega)]; omega), hb⟩
    · rw [decide_eq_false h1, ab_pos h1] at mx
      rw [decide_eq_false h2, ab_pos h2] at my
      by_cases h3 : Y ≤ X
      · refine (int_sub2 B zp yp false xv yv X Y w hB mx my hzy (by omega) (by omega) (by omega) (by omega) h3).mono ?_
        rintro e w' ⟨rfl, ⟨u, hm⟩, hb⟩
        exact ⟨rfl, int_of hm (by rw [decide_eq_false (show ¬ X - Y < 0 by omega)]; simp) (by rw [ab_pos (by omega)]), hb⟩
      · refine (int_sub3 B zp yp false xv yv X Y w hB mx my hzy (by omega) (by omega) (by omega) (by omega) (by omega)).mono ?_
        rintro e w' ⟨rfl, ⟨u, hm⟩, hb⟩
        exact ⟨rfl, int_of hm (and_t (by omega)) (by rw [ab_neg (by omega)]; omega), hb⟩

theorem Mag.later {w w' : World} {B B' p : Nat} {s : Bool} {v : Value} {A : Int} (h : Mag w B p s v A) (hb : Below w.heap.size w w') (hB : B' ≤ B) : Mag w' B' p s v A :=
  ⟨Nat.le_trans hB h.base, (hb.block p h.lt).trans h.heap, (World.ownsRow.kept h.nat (grown_of_below hb none) (by cases h' : v.ownBlock <;> simp)).mono hB⟩
theorem IntAt.later {w w' : World} {B B' p : Nat} {N : Int} (h : IntAt w B p N) (hb : Below w.heap.size w w') (hB : B' ≤ B) : IntAt w' B' p N := by
  obtain ⟨v, m⟩ := h
  exact ⟨v, m.later hb hB⟩
theorem IntAt.lt {w : World} {B p : Nat} {N : Int} (h : IntAt w B p N) : p < w.heap.size := by obtain ⟨v, m⟩ := h; exact m.lt
theorem IntAt.base {w : World} {B p : Nat} {N : Int} (h : IntAt w B p N) : B ≤ p := by obtain ⟨v, m⟩ := h; exact m.base
theorem mag_new (w : World) (B : Nat) (hB : B ≤ w.heap.size) : Mag (w.alloc (.cells #[.bool false, .slice none 0 0] 39)) B w.heap.size false (.slice none 0 0) 0 :=
  ⟨hB, heap_alloc_new _ _, World.ownsRow_nil _ _ _ _⟩
end Go.Proofs.Ybulkbabq
