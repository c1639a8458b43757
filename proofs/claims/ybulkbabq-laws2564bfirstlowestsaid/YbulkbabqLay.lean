import Derived.Test.YbulkbabqFirst
import Derived.Test.YbulkbabqNone
namespace Go.Proofs.Ybulkbabq
open Go.ChangeShapes Go.WideShapes Go.ChangeAt Go.RowKit Go.Maps
set_option linter.unusedVariables false

theorem Came.cells {w : World} {a : Option Addr} {n : Nat} {F T C E S : Nat → Int} (h : Came w a n F T C E S) {j : Nat} (hj : j < n) : ∃ b off, a = some ⟨b, off, none⟩ ∧ b < w.heap.size ∧ w.cell? ⟨b, off + j * 5, none⟩ = some (.int .i64 (F j)) ∧ w.cell? ⟨b, off + j * 5 + 1, none⟩ = some (.int .i64 (T j)) ∧ w.cell? ⟨b, off + j * 5 + 2, none⟩ = some (.int .i64 (C j)) ∧ w.cell? ⟨b, off + j * 5 + 3, none⟩ = some (.int .i64 (E j)) ∧ w.cell? ⟨b, off + j * 5 + 4, none⟩ = some (.int .i64 (S j)) := by
  obtain ⟨b, off, e, hb, hc⟩ := h j hj
  have hd : ∀ d, d < 5 → (j * 5 + d) / 5 = j ∧ (j * 5 + d) % 5 = d := fun d hd => by omega
  refine ⟨b, off, e, hb, ?_, ?_, ?_, ?_, ?_⟩
  · have := hc 0 (by omega)
    obtain ⟨h1, h2⟩ := hd 0 (by omega)
    unfold at5 at this
    rw [h1, h2] at this
    simpa using this
  · have := hc 1 (by omega)
    obtain ⟨h1, h2⟩ := hd 1 (by omega)
    unfold at5 at this
    rw [h1, h2] at this
    simpa using this
  · have := hc 2 (by omega)
    obtain ⟨h1, h2⟩ := hd 2 (by omega)
    unfold at5 at this
    rw [h1, h2] at this
    simpa using this
  · have := hc 3 (by omega)
    obtain ⟨h1, h2⟩ := hd 3 (by omega)
    unfold at5 at this
    rw [h1, h2] at this
    simpa using this
  · have := hc 4 (by omega)
    obtain ⟨h1, h2⟩ := hd 4 (by omega)
    unfold at5 at this
    rw [h1, h2] at this
    simpa using this

/-- A host, folded. -/
def fold3 (x : Int) : Int := x % 18446744073709551616 % 3
theorem fold3_b (x : Int) : 0 ≤ fold3 x ∧ fold3 x ≤ 2 := by unfold fold3; omega

/-- The pairs are laid so far. -/
structure Fl (w wr : World) (n k : Nat) (F T C E S : Nat → Int) : Prop where
  lt : w.heap.size < wr.heap.size
  all : ∀ o, o < n * 5 → ∃ v, wr.cell? ⟨w.heap.size, o, none⟩ = some v
  fz : ∀ o, wr.frozen? ⟨w.heap.size, o, none⟩ = false
  cells : ∀ o, o < k * 5 → wr.cell? ⟨w.heap.size, o, none⟩ = some (.int .i64 (at5 F T C E S o))
  bel : Below w.heap.size w wr

theorem u64_wrap (x : Int) : IntKind.u64.wrap x = x % 18446744073709551616 := by simp [IntKind.wrap, IntKind.signed, IntKind.bits]
theorem fold_is (x : Int) : wrap64 ((IntKind.u64.wrap x).tmod 3) = fold3 x := by
  rw [u64_wrap, Int.tmod_eq_emod_of_nonneg (by omega)]
  have h := fold3_b x
  unfold fold3 at *
  unfold wrap64
  omega
theorem at5_0 (F T C E S : Nat → Int) (k : Nat) : at5 F T C E S (k * 5) = F k := by
  unfold at5
  rw [if_pos (by omega), show k * 5 / 5 = k by omega]
theorem at5_1 (F T C E S : Nat → Int) (k : Nat) : at5 F T C E S (k * 5 + 1) = T k := by
  unfold at5
  rw [if_neg (by omega), if_pos (by omega), show (k * 5 + 1) / 5 = k by omega]
theorem at5_2 (F T C E S : Nat → Int) (k : Nat) : at5 F T C E S (k * 5 + 2) = C k := by
  unfold at5
  rw [if_neg (by omega), if_neg (by omega), if_pos (by omega), show (k * 5 + 2) / 5 = k by omega]
theorem at5_3 (F T C E S : Nat → Int) (k : Nat) : at5 F T C E S (k * 5 + 3) = E k := by
  unfold at5
  rw [if_neg (by omega), if_neg (by omega), if_neg (by omega), if_pos (by omega), show (k * 5 + 3) / 5 = k by omega]
theorem at5_4 (F T C E S : Nat → Int) (k : Nat) : at5 F T C E S (k * 5 + 4) = S k := by
  unfold at5
  rw [if_neg (by omega), if_neg (by omega), if_neg (by omega), if_neg (by omega), show (k * 5 + 4) / 5 = k by omega]

/-- One cell more is laid. -/
structure Fc (w wr : World) (m k : Nat) (V : Nat → Int) : Prop where
  lt : w.heap.size < wr.heap.size
  all : ∀ o, o < m → ∃ v, wr.cell? ⟨w.heap.size, o, none⟩ = some v
  fz : ∀ o, wr.frozen? ⟨w.heap.size, o, none⟩ = false
  cells : ∀ o, o < k → wr.cell? ⟨w.heap.size, o, none⟩ = some (.int .i64 (V o))
  bel : Below w.heap.size w wr
theorem Fc.set {w wr : World} {m k : Nat} {V : Nat → Int} (h : Fc w wr m k V) (hk : k < m) {x : Int} (hx : x = V k) : Fc w (wr.setCell ⟨w.heap.size, k, none⟩ (.int .i64 x)) m (k + 1) V := by
  obtain ⟨u, hu⟩ := h.all k hk
  have same : (wr.setCell ⟨w.heap.size, k, none⟩ (.int .i64 x)).cell? ⟨w.heap.size, k, none⟩ = some (.int .i64 x) := World.cell?_setCell_same _ _ _ hu
  have oth : ∀ o, o ≠ k → (wr.setCell ⟨w.heap.size, k, none⟩ (.int .i64 x)).cell? ⟨w.heap.size, o, none⟩ = wr.cell? ⟨w.heap.size, o, none⟩ := fun o ho => World.cell?_setCell_other _ _ _ _ (by intro e; injection e with _ e; omega)
  refine ⟨by simpa using h.lt, fun o ho => ?_, fun o => by rw [World.frozen?_setCell]; exact h.fz o, fun o ho => ?_, h.bel.setCell (by simp) _⟩
  · by_cases e : o = k
    · subst e; exact ⟨_, same⟩
    · rw [oth o e]; exact h.all o ho
  · by_cases e : o = k
    · subst e; rw [same, hx]
    · rw [oth o e]; exact h.cells o (by omega)
theorem Fc.alloc {w wr : World} {m k : Nat} {V : Nat → Int} (h : Fc w wr m k V) (x : Obj) : Fc w (wr.alloc x) m k V := by
  have hb : Below wr.heap.size wr (wr.alloc x) := (Below.refl _ _).alloc (Nat.le_refl _) x
  refine ⟨by have := h.lt; simp; omega, fun o ho => ?_, fun o => (hb.frozen (p := ⟨w.heap.size, o, none⟩) h.lt).trans (h.fz o), fun o ho => (hb.cell (p := ⟨w.heap.size, o, none⟩) h.lt).trans (h.cells o ho), h.bel.alloc h.bel.size x⟩
  obtain ⟨v, hv⟩ := h.all o ho
  exact ⟨v, (hb.cell (p := ⟨w.heap.size, o, none⟩) h.lt).trans hv⟩
theorem Fl.fc {w wr : World} {n k : Nat} {F T C E S : Nat → Int} (h : Fl w wr n k F T C E S) : Fc w wr (n * 5) (k * 5) (at5 F T C E S) := ⟨h.lt, h.all, h.fz, h.cells, h.bel⟩
theorem Fc.fl {w wr : World} {n k : Nat} {F T C E S : Nat → Int} (h : Fc w wr (n * 5) (k * 5) (at5 F T C E S)) : Fl w wr n k F T C E S := ⟨h.lt, h.all, h.fz, h.cells, h.bel⟩
theorem Fl.step {w wr : World} {n k : Nat} {F T C E S : Nat → Int} (h : Fl w wr n k F T C E S) (hk : k < n) {x0 x1 x2 x3 x4 : Int} (h0 : x0 = F k) (h1 : x1 = T k) (h2 : x2 = C k) (h3 : x3 = E k) (h4 : x4 = S k) (o : Obj) :
    Fl w ((((((wr.setCell ⟨w.heap.size, k * 5, none⟩ (.int .i64 x0)).setCell ⟨w.heap.size, k * 5 + 1, none⟩ (.int .i64 x1)).setCell ⟨w.heap.size, k * 5 + 2, none⟩ (.int .i64 x2)).setCell ⟨w.heap.size, k * 5 + 3, none⟩ (.int .i64 x3)).setCell ⟨w.heap.size, k * 5 + 4, none⟩ (.int .i64 x4)).alloc o) n (k + 1) F T C E S := by
  have hh := (((((h.fc.set (by omega) (h0.trans (at5_0 F T C E S k).symm)).set (by omega) (h1.trans (at5_1 F T C E S k).symm)).set (by omega) (h2.trans (at5_2 F T C E S k).symm)).set (by omega) (h3.trans (at5_3 F T C E S k).symm)).set (by omega) (h4.trans (at5_4 F T C E S k).symm)).alloc o
  have e : (k + 1) * 5 = k * 5 + 1 + 1 + 1 + 1 + 1 := by omega
  refine Fc.fl ?_
  rw [e]
  exact hh

theorem IntAt.setOld {w : World} {B p A o : Nat} {N : Int} {u : Value} (h : IntAt w B p N) (hA : A < B) : IntAt (w.setCell ⟨A, o, none⟩ u) B p N := by
  obtain ⟨v, m⟩ := h
  refine ⟨v, m.base, ?_, ?_⟩
  · rw [heap_setCell_other w ⟨A, o, none⟩ p u (by have := m.base; simp; omega)]
    exact m.heap
  · refine World.ownsRow.kept m.nat (Eqv.refl (w.setCell ⟨A, o, none⟩ u)).grown ?_
    cases hv : v.ownBlock with
    | none => exact .inl rfl
    | some z =>
      have := own_base m.nat z hv
      exact .inr (fun e => by injection e with e; omega)
theorem Prs.setOther {w : World} {b n A o : Nat} {F T C E S : Nat → Int} {u : Value} (h : Prs w b n F T C E S) (hA : b ≠ A) : Prs (w.setCell ⟨A, o, none⟩ u) b n F T C E S := by
  have oth : ∀ x, (w.setCell ⟨A, o, none⟩ u).cell? ⟨b, x, none⟩ = w.cell? ⟨b, x, none⟩ := fun x => World.cell?_setCell_other _ _ _ _ (by intro e; injection e with e; omega)
  exact ⟨by simpa using h.lt, fun i hi => (oth _).trans (h.f i hi), fun i hi => (oth _).trans (h.t i hi), fun i hi => (oth _).trans (h.c i hi), fun i hi => (oth _).trans (h.e i hi), fun i hi => (oth _).trans (h.s i hi)⟩

/-- The limits and the marks, laid so far. -/
structure Ats (w wr : World) (G A O n k : Nat) (P : Nat → Nat) (F T C E S : Nat → Int) : Prop where
  prs : Prs wr G n F T C E S
  wG : w.heap.size ≤ G
  gA : G < A
  aO : A < O
  lt : O < wr.heap.size
  aall : ∀ j, j < n → ∃ v, wr.cell? ⟨A, j, none⟩ = some v
  afz : ∀ j, wr.frozen? ⟨A, j, none⟩ = false
  oall : ∀ j, j < n → ∃ v, wr.cell? ⟨O, j, none⟩ = some v
  ofz : ∀ j, wr.frozen? ⟨O, j, none⟩ = false
  pt : ∀ j, j < k → wr.cell? ⟨A, j, none⟩ = some (.pointer (some ⟨P j, 0, none⟩))
  mark : ∀ j, j < k → wr.cell? ⟨O, j, none⟩ = some (.bool (decide (0 < S j)))
  int : ∀ j, j < k → IntAt wr (O + 1) (P j) (lim (C j) (E j) (S j))
  inj : ∀ i j, i < j → j < k → P i < P j
  bel : Below w.heap.size w wr
/-- .. seen again in a world where nothing that was there has turned. -/
theorem Ats.later {w wr w' : World} {G A O n k : Nat} {P : Nat → Nat} {F T C E S : Nat → Int} (h : Ats w wr G A O n k P F T C E S) (hb : Below wr.heap.size wr w') : Ats w w' G A O n k P F T C E S := by
  have lA : A < wr.heap.size := by have := h.aO; have := h.lt; omega
  have lG : G < wr.heap.size := by have := h.gA; omega
  refine ⟨h.prs.later hb lG, h.wG, h.gA, h.aO, Nat.lt_of_lt_of_le h.lt hb.size, fun j hj => ?_, fun j => (hb.frozen (p := ⟨A, j, none⟩) lA).trans (h.afz j), fun j hj => ?_, fun j => (hb.frozen (p := ⟨O, j, none⟩) h.lt).trans (h.ofz j), fun j hj => (hb.cell (p := ⟨A, j, none⟩) lA).trans (h.pt j hj), fun j hj => (hb.cell (p := ⟨O, j, none⟩) h.lt).trans (h.mark j hj), fun j hj => (h.int j hj).later hb (Nat.le_refl _), h.inj, h.bel.trans (hb.mono h.bel.size)⟩
  · obtain ⟨v, hv⟩ := h.aall j hj
    exact ⟨v, (hb.cell (p := ⟨A, j, none⟩) lA).trans hv⟩
  · obtain ⟨v, hv⟩ := h.oall j hj
    exact ⟨v, (hb.cell (p := ⟨O, j, none⟩) h.lt).trans hv⟩
/-- One limit, one mark more. -/
theorem Ats.step {w wr : World} {G A O n k p : Nat} {P : Nat → Nat} {F T C E S : Nat → Int} (h : Ats w wr G A O n k P F T C E S) (hk : k < n) (hi : IntAt wr (O + 1) p (lim (C k) (E k) (S k))) (hp : ∀ j, j < k → P j < p) {b : Bool} (hb : b = decide (0 < S k)) :
    Ats w ((wr.setCell ⟨A, k, none⟩ (.pointer (some ⟨p, 0, none⟩))).setCell ⟨O, k, none⟩ (.bool b)) G A O n (k + 1) (fun j => if j = k then p else P j) F T C E S := by
  have aO := h.aO
  have gA := h.gA
  have wG := h.wG
  obtain ⟨ua, hua⟩ := h.aall k hk
  obtain ⟨uo, huo⟩ := h.oall k hk
  have c1 : (wr.setCell ⟨A, k, none⟩ (.pointer (some ⟨p, 0, none⟩))).cell? ⟨A, k, none⟩ = some (.pointer (some ⟨p, 0, none⟩)) := World.cell?_setCell_same _ _ _ hua
  have o1 : ∀ x : Addr, (⟨A, k, none⟩ : Addr) ≠ x → (wr.setCell ⟨A, k, none⟩ (.pointer (some ⟨p, 0, none⟩))).cell? x = wr.cell? x := fun x hx => World.cell?_setCell_other _ _ _ _ hx
  have c2 : ((wr.setCell ⟨A, k, none⟩ (.pointer (some ⟨p, 0, none⟩))).setCell ⟨O, k, none⟩ (.bool b)).cell? ⟨O, k, none⟩ = some (.bool b) := World.cell?_setCell_same _ _ (u := uo) _ (by rw [o1 _ (by intro e; injection e with e; omega)]; exact huo)
  have o2 : ∀ x : Addr, (⟨O, k, none⟩ : Addr) ≠ x → ((wr.setCell ⟨A, k, none⟩ (.pointer (some ⟨p, 0, none⟩))).setCell ⟨O, k, none⟩ (.bool b)).cell? x = (wr.setCell ⟨A, k, none⟩ (.pointer (some ⟨p, 0, none⟩))).cell? x := fun x hx => World.cell?_setCell_other _ _ _ _ hx
  have ca : ∀ j, j ≠ k → ((wr.setCell ⟨A, k, none⟩ (.pointer (some ⟨p, 0, none⟩))).setCell ⟨O, k, none⟩ (.bool b)).cell? ⟨A, j, none⟩ = wr.cell? ⟨A, j, none⟩ := fun j hj => by
    rw [o2 _ (by intro e; injection e with e; omega), o1 _ (by intro e; injection e with _ e; omega)]
  have ck : ((wr.setCell ⟨A, k, none⟩ (.pointer (some ⟨p, 0, none⟩))).setCell ⟨O, k, none⟩ (.bool b)).cell? ⟨A, k, none⟩ = some (.pointer (some ⟨p, 0, none⟩)) := by
    rw [o2 _ (by intro e; injection e with e; omega), c1]
  have co : ∀ j, j ≠ k → ((wr.setCell ⟨A, k, none⟩ (.pointer (some ⟨p, 0, none⟩))).setCell ⟨O, k, none⟩ (.bool b)).cell? ⟨O, j, none⟩ = wr.cell? ⟨O, j, none⟩ := fun j hj => by
    rw [o2 _ (by intro e; injection e with _ e; omega), o1 _ (by intro e; injection e with e; omega)]
  refine ⟨(h.prs.setOther (by omega)).setOther (by omega), wG, gA, aO, by simpa using h.lt, fun j hj => ?_, fun j => by rw [World.frozen?_setCell, World.frozen?_setCell]; exact h.afz j, fun j hj => ?_, fun j => by rw [World.frozen?_setCell, World.frozen?_setCell]; exact h.ofz j, fun j hj => ?_, fun j hj => ?_, fun j hj => ?_, fun i j hij hj => ?_, (h.bel.setCell (by simp; omega) _).setCell (by simp; omega) _⟩
  · by_cases e : j = k
    · subst e; exact ⟨_, ck⟩
    · rw [ca j e]; exact h.aall j hj
  · by_cases e : j = k
    · subst e; exact ⟨_, c2⟩
    · rw [co j e]; exact h.oall j hj
  · by_cases e : j = k
    · subst e; simpa using ck
    · rw [ca j e, if_neg e]; exact h.pt j (by omega)
  · by_cases e : j = k
    · subst e; rw [c2, hb]
    · rw [co j e]; exact h.mark j (by omega)
  · by_cases e : j = k
    · subst e
      simp only [if_true]
      exact (hi.setOld (by omega)).setOld (by omega)
    · rw [if_neg e]
      exact ((h.int j (by omega)).setOld (by omega)).setOld (by omega)
  · by_cases e : j = k
    · subst e
      rw [if_neg (by omega)]
      simp only [if_true]
      exact hp i hij
    · rw [if_neg e, if_neg (by omega)]
      exact h.inj i j hij (by omega)
theorem info28 : (Yba.prog.info? 28).map (fun i => (i.zero, i.size, i.bytes)) = some (some (.pointer none), 1, 8) := by kernel_rfl
theorem info4 : (Yba.prog.info? 4).map (fun i => (i.zero, i.size, i.bytes)) = some (some (.bool false), 1, 1) := by kernel_rfl

end Go.Proofs.Ybulkbabq
