import Derived.Test.YbulkbabqPlain
namespace Go.Proofs.Ybulkbabq
open Go.ChangeShapes Go.WideShapes Go.ChangeAt Go.RowKit Go.Maps
set_option linter.unusedVariables false

theorem same_of (r : Bool) (pf pt pc pe ps qf qt qc qe qs : Int) (w : World) (h : decide ((pf, pt) = (qf, qt)) = r) :
    Calls Yba.prog 6 #[.agg #[.int .i64 pf, .int .i64 pt, .int .i64 pc, .int .i64 pe, .int .i64 ps], .agg #[.int .i64 qf, .int .i64 qt, .int .i64 qc, .int .i64 qe, .int .i64 qs]] w fun en w' => en = .returned (.bool r) ∧ Below w.heap.size w w' := by
  subst h
  exact same_any pf pt pc pe ps qf qt qc qe qs w
theorem tighter_of (r : Bool) (F T C E S : Nat → Int) (n i j : Nat) (w : World) (rC : Rng n C) (rE : Rng n E) (rS : Rng n S) (hi : i < n) (hj : j < n) (h : tgt C E S i j = r) :
    Calls Yba.prog 10 #[.agg #[.int .i64 (F i), .int .i64 (T i), .int .i64 (C i), .int .i64 (E i), .int .i64 (S i)], .agg #[.int .i64 (F j), .int .i64 (T j), .int .i64 (C j), .int .i64 (E j), .int .i64 (S j)]] w fun en w' => en = .returned (.bool r) ∧ Below w.heap.size w w' := by
  subst h
  exact tighter_any _ _ _ _ _ _ _ _ _ _ w (rC.lo i hi) (rC.hi i hi) (rE.lo i hi) (rE.hi i hi) (rS.lo i hi) (rS.hi i hi) (rC.lo j hj) (rC.hi j hj) (rE.lo j hj) (rE.hi j hj) (rS.lo j hj) (rS.hi j hj)

theorem below_setCells (B b : Nat) (hB : B ≤ b) : ∀ (vs : List Value) (o : Nat) (w : World), Below B w (w.setCells b o vs)
  | [], _, w => Below.refl _ _
  | v :: r, o, w => ((Below.refl B w).setCell (p := ⟨b, o, none⟩) hB v).trans (below_setCells B b hB r (o + 1) _)

/-- Cell number o of the pairs. -/
def at5 (F T C E S : Nat → Int) (o : Nat) : Int := if o % 5 = 0 then F (o / 5) else if o % 5 = 1 then T (o / 5) else if o % 5 = 2 then C (o / 5) else if o % 5 = 3 then E (o / 5) else S (o / 5)
/-- The pairs that came in. -/
def Came (w : World) (a : Option Addr) (n : Nat) (F T C E S : Nat → Int) : Prop :=
  ∀ j, j < n → ∃ b off, a = some ⟨b, off, none⟩ ∧ b < w.heap.size ∧ ∀ d, d < 5 → w.cell? ⟨b, off + j * 5 + d, none⟩ = some (.int .i64 (at5 F T C E S (j * 5 + d)))
theorem Came.later {B : Nat} {w w' : World} {a : Option Addr} {n : Nat} {F T C E S : Nat → Int} (h : Came w a n F T C E S) (hb : Below B w w') (hB : w.heap.size ≤ B) : Came w' a n F T C E S := fun j hj => by
  obtain ⟨b, off, e, hl, hc⟩ := h j hj
  exact ⟨b, off, e, Nat.lt_of_lt_of_le hl hb.size, fun d hd => (hb.cell (p := ⟨b, off + j * 5 + d, none⟩) (Nat.lt_of_lt_of_le hl hB)).trans (hc d hd)⟩
theorem prs_of {w : World} {G n : Nat} {F T C E S : Nat → Int} (hG : G < w.heap.size) (h : ∀ o, o < n * 5 → w.cell? ⟨G, o, none⟩ = some (.int .i64 (at5 F T C E S o))) : Prs w G n F T C E S := by
  have hd : ∀ i d, d < 5 → (i * 5 + d) / 5 = i ∧ (i * 5 + d) % 5 = d := fun i d h => by omega
  refine ⟨hG, fun i hi => ?_, fun i hi => ?_, fun i hi => ?_, fun i hi => ?_, fun i hi => ?_⟩
  · have := h (i * 5) (by omega)
    obtain ⟨h1, h2⟩ := hd i 0 (by omega)
    simp at h1 h2
    simpa [at5, h1, h2] using this
  · have := h (i * 5 + 1) (by omega)
    obtain ⟨h1, h2⟩ := hd i 1 (by omega)
    simpa [at5, h1, h2] using this
  · have := h (i * 5 + 2) (by omega)
    obtain ⟨h1, h2⟩ := hd i 2 (by omega)
    simpa [at5, h1, h2] using this
  · have := h (i * 5 + 3) (by omega)
    obtain ⟨h1, h2⟩ := hd i 3 (by omega)
    simpa [at5, h1, h2] using this
  · have := h (i * 5 + 4) (by omega)
    obtain ⟨h1, h2⟩ := hd i 4 (by omega)
    simpa [at5, h1, h2] using this

theorem copy_pairs (a : Option Addr) (n c G : Nat) (F T C E S : Nat → Int) (w : World) (hs : Came w a n F T C E S) (hG : G < w.heap.size)
    (hc : ∀ o, o < n * 5 → (w.cell? ⟨G, o, none⟩).isSome = true) (hf : ∀ o, w.frozen? ⟨G, o, none⟩ = false) :
    ∃ w2, (∀ ty, (Builtin.copy_ #[22, 22] ty #[.slice (some ⟨G, 0, none⟩) n n, .slice a n c]).run Yba.prog w = .ok (goInt n) w2) ∧ Prs w2 G n F T C E S ∧ Below G w w2 := by
  cases a with
  | none =>
    have hn : n = 0 := by
      refine Classical.byContradiction fun h => ?_
      obtain ⟨b, off, e, _⟩ := hs 0 (by omega)
      cases e
    subst hn
    refine ⟨w, fun ty => ?_, prs_of hG (fun o ho => by omega), Below.refl _ _⟩
    have hq := sz24
    cases hq' : Yba.prog.info? 24 with
    | none => simp [hq'] at hq
    | some i =>
      simp [Builtin.copy_, run_underlying Yba.underlying22, Builtin.lenOf, Builtin.firstCells, sizeOf, typeInfo, hq', storeCells]
  | some x =>
    let cs : List Value := (List.range (n * 5)).map fun o => .int .i64 (at5 F T C E S o)
    have hcl : cs.length = n * 5 := by simp [cs]
    have hget : ∀ j, j < n * 5 → cs[j]? = some (.int .i64 (at5 F T C E S j)) := fun j hj => by simp [cs, hj]
    have h5 := fun ty => run_copy5 w 22 22 ty 24 G 0 n n x n c cs Yba.underlying22 sz24 (by rw [hcl]; simp) (fun j v hj => ?_) (fun j hj => by simpa using hc j (by omega)) (fun j hj => by simpa using hf j) (fun v hv => by simp [cs] at hv; obtain ⟨o, _, rfl⟩ := hv; rfl)
    · refine ⟨w.setCells G 0 cs, fun ty => by simpa using h5 ty, prs_of (Nat.lt_of_lt_of_le hG (below_setCells G G (Nat.le_refl _) cs 0 w).size) (fun o ho => ?_), below_setCells G G (Nat.le_refl _) cs 0 w⟩
      have := World.cell?_setCells_in G cs 0 w (fun j hj => by simpa using hc j (by omega)) o (by omega)
      simp only [Nat.zero_add] at this
      rw [this, ← List.getElem?_eq_getElem (by omega), hget o ho]
    · have hjl : j < n * 5 := by
        have := (List.getElem?_eq_some_iff.1 hj).1
        omega
      rw [hget j hjl] at hj
      injection hj with hj
      subst hj
      obtain ⟨b, off, e, _, hcc⟩ := hs (j / 5) (by omega)
      injection e with e
      subst e
      rw [Addr.add_lit]
      have := hcc (j % 5) (by omega)
      rw [show off + j / 5 * 5 + j % 5 = off + j by omega, show j / 5 * 5 + j % 5 = j by omega] at this
      exact this
end Go.Proofs.Ybulkbabq
