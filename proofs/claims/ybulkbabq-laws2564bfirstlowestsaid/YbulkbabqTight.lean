import Derived.Test.YbulkbabqWide
import Derived.Laws.StructEq
namespace Go.Proofs.Ybulkbabq
open Go.ChangeShapes Go.WideShapes Go.ChangeAt Go.RowKit
set_option linter.unusedVariables false

theorem lt_hi {a b : Int} (h : hi a < hi b) : a < b := by unfold hi at h; omega
theorem lt_lo {a b : Int} (h : hi a = hi b) : a < b ↔ lo a < lo b := by unfold hi at h; unfold lo; omega
theorem gt_hi {a b : Int} (h : hi b < hi a) : ¬ a < b := by unfold hi at h; omega
theorem eq_of {a b : Int} (h : hi a = hi b) (k : lo a = lo b) : a = b := by unfold hi at h; unfold lo at k; omega

set_option maxHeartbeats 400000 in
theorem less_any (a b : Int) (w : World) :
    Calls Yba.prog 29 #[.agg #[.int .i64 (hi a), .int .u64 (lo a)], .agg #[.int .i64 (hi b), .int .u64 (lo b)]] w fun e w' => e = .returned (.bool (decide (a < b))) ∧ Below w.heap.size w w' := by
  have hbel : ∀ x y : Obj, Below w.heap.size w ((w.alloc x).alloc y) := fun x y => ((Below.refl _ _).alloc (Nat.le_refl _) _).alloc (by simp) _
  have HB := hide hbel
  clear hbel
  by_cases h1 : hi a < hi b
  · have E : Hid (decide (a < b) = true) := by simpa [Hid] using lt_hi h1
    go_enter Yba.func29, Yba.ntmps29
    go_wp2
    go_ret
    exact ⟨by rw [E.out]; rfl, HB.out _ _⟩
  have d1 : decide (hi a < hi b) = false := by simpa using h1
  by_cases h2 : hi a = hi b
  · have e2 : (hi a == hi b) = true := by simpa using h2
    by_cases h3 : lo a < lo b
    · have E : Hid (decide (a < b) = true) := by simpa [Hid] using (lt_lo h2).2 h3
      clear h2
      go_enter Yba.func29, Yba.ntmps29
      go_wp2
      go_ret
      exact ⟨by rw [E.out]; rfl, HB.out _ _⟩
    · have E : Hid (decide (a < b) = false) := by simpa [Hid] using fun h => h3 ((lt_lo h2).1 h)
      have d3 : decide (lo a < lo b) = false := by simpa using h3
      clear h2
      go_enter Yba.func29, Yba.ntmps29
      go_wp2
      go_ret
      exact ⟨by rw [E.out]; rfl, HB.out _ _⟩
  · have e2 : (hi a == hi b) = false := by simpa using h2
    have E : Hid (decide (a < b) = false) := by simpa [Hid] using gt_hi (by omega)
    clear h2
    go_enter Yba.func29, Yba.ntmps29
    go_wp2
    go_ret
    exact ⟨by rw [E.out]; rfl, HB.out _ _⟩

theorem bcell {W w1 : World} (hb : Below W.heap.size W w1) : ∀ b o, b < W.heap.size → w1.cell? ⟨b, o, none⟩ = W.cell? ⟨b, o, none⟩ :=
  fun b o h => hb.cell (p := ⟨b, o, none⟩) h
theorem bel2 {w w1 : World} {x y : Obj} (bb : Below ((w.alloc x).alloc y).heap.size ((w.alloc x).alloc y) w1) : Below w.heap.size w w1 :=
  (((Below.refl w.heap.size w).alloc (Nat.le_refl _) x).alloc (by simp) y).trans (bb.mono (by simp; omega))

/-- One limit lies below another. -/
def bless (a : Int) (oa : Int) (b : Int) (ob : Int) : Bool := decide (a < b) || (decide (a = b) && decide (ob < oa))

set_option maxHeartbeats 400000 in
theorem bless_any (a b oa ob : Int) (w : World) :
    Calls Yba.prog 16 #[.agg #[.int .i64 (hi a), .int .u64 (lo a), .int .i64 oa], .agg #[.int .i64 (hi b), .int .u64 (lo b), .int .i64 ob]] w fun e w' => e = .returned (.bool (bless a oa b ob)) ∧ Below w.heap.size w w' := by
  by_cases h1 : a < b
  · have E : Hid (bless a oa b ob = true) := by simp [Hid, bless, h1]
    have d1 : decide (a < b) = true := by simpa using h1
    go_enter Yba.func16, Yba.ntmps16
    go_wp2_with (go_at_call 29; refine (less_any a b _).mono ?_; rintro e w1 ⟨rfl, bb⟩)
    go_ret
    exact ⟨by rw [E.out]; rfl, bel2 bb⟩
  · have d1 : decide (a < b) = false := by simpa using h1
    by_cases h2 : a = b
    · have E : Hid (bless a oa b ob = decide (ob < oa)) := by simp [Hid, bless, h2]
      subst h2
      go_enter Yba.func16, Yba.ntmps16
      go_wp2_with (go_at_call 29; refine (less_any a a _).mono ?_; rintro e w1 ⟨rfl, bb⟩; have hbc := bcell bb; have HBB := hide (bel2 bb); clear bb)
      go_ret
      exact ⟨by rw [E.out]; rfl, HBB.out⟩
    · have E : Hid (bless a oa b ob = false) := by simp [Hid, bless, h2, h1]
      by_cases h3 : hi a = hi b
      · have e4 : (hi a == hi b) = true := by simpa using h3
        have e3 : (lo a == lo b) = false := by simpa using fun h => h2 (eq_of h3 h)
        clear h2 h3
        go_enter Yba.func16, Yba.ntmps16
        go_wp2_with (go_at_call 29; refine (less_any a b _).mono ?_; rintro e w1 ⟨rfl, bb⟩; have hbc := bcell bb; have HBB := hide (bel2 bb); clear bb)
        go_ret
        exact ⟨by rw [E.out]; rfl, HBB.out⟩
      · have e3 : (hi a == hi b) = false := by simpa using h3
        clear h2 h3
        go_enter Yba.func16, Yba.ntmps16
        go_wp2_with (go_at_call 29; refine (less_any a b _).mono ?_; rintro e w1 ⟨rfl, bb⟩; have hbc := bcell bb; have HBB := hide (bel2 bb); clear bb)
        go_ret
        exact ⟨by rw [E.out]; rfl, HBB.out⟩

/-! ### limit -/
/-- The limit of a pair, exactly; whether it is open. -/
def lim (cause effect slack : Int) : Int := effect + slack - cause
def opn (slack : Int) : Int := if 0 < slack then 1 else 0

set_option maxHeartbeats 1000000 in
set_option maxRecDepth 100000 in
theorem limit_any (fr to c e s : Int) (w : World) (c0 : -9223372036854775808 ≤ c) (c1 : c ≤ 9223372036854775807) (e0 : -9223372036854775808 ≤ e) (e1 : e ≤ 9223372036854775807) (s0 : -9223372036854775808 ≤ s) (s1 : s ≤ 9223372036854775807) :
    Calls Yba.prog 15 #[.agg #[.int .i64 fr, .int .i64 to, .int .i64 c, .int .i64 e, .int .i64 s]] w fun en w' => en = .returned (.agg #[.int .i64 (hi (lim c e s)), .int .u64 (lo (lim c e s)), .int .i64 (opn s)]) ∧ Below w.heap.size w w' := by
  have q1 : -3 ≤ hi e ∧ hi e ≤ 3 := hi_b e (by omega) (by omega)
  have q2 : -3 ≤ hi s ∧ hi s ≤ 3 := hi_b s (by omega) (by omega)
  have q3 : -3 ≤ hi c ∧ hi c ≤ 3 := hi_b c (by omega) (by omega)
  have q4 : -3 ≤ hi (e + s) ∧ hi (e + s) ≤ 3 := hi_b (e + s) (by omega) (by omega)
  have HQ := hide (And.intro q1 (And.intro q2 (And.intro q3 q4)))
  clear q1 q2 q3 q4
  by_cases hs : 0 < s
  · have E : Hid (opn s = 1) := by simp [Hid, opn, hs]
    go_enter Yba.func15, Yba.ntmps15
    go_wp2
    go_region_held3 (fun w' => w'.cell? ⟨w.heap.size, 2, none⟩ = some (.int .i64 c) ∧ w'.cell? ⟨w.heap.size, 3, none⟩ = some (.int .i64 e) ∧ w'.cell? ⟨w.heap.size, 4, none⟩ = some (.int .i64 s))
      (simp [go_sem, World.cell?_alloc_past])
      (first
        | (go_at_call_of 26 (Value.int .i64 e); refine (wideOf_any e _ e0 e1).mono ?_; rintro en wa ⟨rfl, oa, rfl⟩)
        | (go_at_call_of 26 (Value.int .i64 s); refine (wideOf_any s _ s0 s1).mono ?_; rintro en wb ⟨rfl, ob, rfl⟩)
        | (go_at_call 27; refine (plus_any e s _ HQ.out.1 HQ.out.2.1).mono ?_; rintro en wd ⟨rfl, od1, od2, od3, rfl⟩)
        | (go_at_call_of 26 (Value.int .i64 c); refine (wideOf_any c _ c0 c1).mono ?_; rintro en wc ⟨rfl, oc, rfl⟩)
        | (go_at_call 28; refine (minus_any (e + s) c _ HQ.out.2.2.2 HQ.out.2.2.1).mono ?_; rintro en we ⟨rfl, oe1, oe2, oe3, rfl⟩))
    all_goals
      go_wp2
      refine bodyPost_ret (v := .agg #[.int .i64 (hi (e + s - c)), .int .u64 (lo (e + s - c)), .int .i64 1]) (by simp [results, Yba.results15, go_sem]) rfl ⟨by rw [E.out]; rfl, ?_⟩
      go_grown
  · have E : Hid (opn s = 0) := by simp [Hid, opn, hs]
    go_enter Yba.func15, Yba.ntmps15
    go_wp2
    go_region_held3 (fun w' => w'.cell? ⟨w.heap.size, 2, none⟩ = some (.int .i64 c) ∧ w'.cell? ⟨w.heap.size, 3, none⟩ = some (.int .i64 e) ∧ w'.cell? ⟨w.heap.size, 4, none⟩ = some (.int .i64 s))
      (simp [go_sem, World.cell?_alloc_past])
      (first
        | (go_at_call_of 26 (Value.int .i64 e); refine (wideOf_any e _ e0 e1).mono ?_; rintro en wa ⟨rfl, oa, rfl⟩)
        | (go_at_call_of 26 (Value.int .i64 s); refine (wideOf_any s _ s0 s1).mono ?_; rintro en wb ⟨rfl, ob, rfl⟩)
        | (go_at_call 27; refine (plus_any e s _ HQ.out.1 HQ.out.2.1).mono ?_; rintro en wd ⟨rfl, od1, od2, od3, rfl⟩)
        | (go_at_call_of 26 (Value.int .i64 c); refine (wideOf_any c _ c0 c1).mono ?_; rintro en wc ⟨rfl, oc, rfl⟩)
        | (go_at_call 28; refine (minus_any (e + s) c _ HQ.out.2.2.2 HQ.out.2.2.1).mono ?_; rintro en we ⟨rfl, oe1, oe2, oe3, rfl⟩))
    all_goals
      go_wp2
      refine bodyPost_ret (v := .agg #[.int .i64 (hi (e + s - c)), .int .u64 (lo (e + s - c)), .int .i64 0]) (by simp [results, Yba.results15, go_sem]) rfl ⟨by rw [E.out]; rfl, ?_⟩
      go_grown
end Go.Proofs.Ybulkbabq
