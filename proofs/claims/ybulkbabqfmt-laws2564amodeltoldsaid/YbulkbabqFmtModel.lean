import Derived.Test.YbulkbabqFmtErr
import Derived.WalkSmall
namespace Go.Proofs.YbulkbabqFmt
open Go.RowKit

theorem hide {p : Prop} (h : p) : Hid p := h
theorem cell_lt {w : World} {b o : Nat} {v : Value} (h : w.cell? ⟨b, o, none⟩ = some v) : b < w.heap.size := by
  refine Classical.byContradiction fun hb => ?_
  have hn : w.heap[b]? = none := by simp; omega
  simp [World.cell?, hn] at h
theorem cell_alloc_old {w : World} {b o : Nat} {v : Value} {x : Obj} (h : w.cell? ⟨b, o, none⟩ = some v) : (w.alloc x).cell? ⟨b, o, none⟩ = some v :=
  (((Below.refl w.heap.size w).alloc (Nat.le_refl _) x).cell (p := ⟨b, o, none⟩) (cell_lt h)).trans h

theorem info34 : (Ybaf.prog.info? 34).map (fun i => (i.zero, i.size, i.bytes)) = some (some (.agg #[.string { data := #[] }, .slice none 0 0]), 2, 40) := by kernel_rfl

theorem info194 : (Ybaf.prog.info? 194).map (fun i => (i.zero, i.size, i.bytes)) = some (some (.agg #[.int .i64 0, .slice none 0 0, .string { data := #[] }, .string { data := #[] }]), 4, 64) := by kernel_rfl
theorem info31 : (Ybaf.prog.info? 31).map (fun i => (i.zero, i.size, i.bytes)) = some (some (.agg #[.int .i64 0, .int .u64 0]), 2, 16) := by kernel_rfl

/-- The log: host j logs K j events. -/
structure LogAt (w : World) (L G n : Nat) (K : Nat → Nat) : Prop where
  l0 : w.cell? ⟨L, 0, none⟩ = some (.slice (some ⟨G, 0, none⟩) n n)
  nm : ∀ j, j < n → w.cell? ⟨G, j * 2, none⟩ = some (.string { data := #[104] })
  ev : ∀ j, j < n → ∃ a, w.cell? ⟨G, j * 2 + 1, none⟩ = some (.slice a (K j) (K j))

/-- In the middle of building it. -/
structure Building (w wr : World) (G n k : Nat) (K : Nat → Nat) : Prop where
  lt : G < wr.heap.size
  all : ∀ o, o < n * 2 → ∃ v, wr.cell? ⟨G, o, none⟩ = some v
  fz : ∀ o, wr.frozen? ⟨G, o, none⟩ = false
  nm : ∀ j, j < k → wr.cell? ⟨G, j * 2, none⟩ = some (.string { data := #[104] })
  ev : ∀ j, j < k → ∃ a, wr.cell? ⟨G, j * 2 + 1, none⟩ = some (.slice a (K j) (K j))
  bel : Below w.heap.size w wr

set_option maxHeartbeats 1000000 in
set_option maxRecDepth 100000 in
theorem build (a : Option Addr) (n c : Nat) (ss : List Int) (w : World) (hn : n ≤ 256)
    (hc : ∀ j, j < n → ∃ b off, a = some ⟨b, off, none⟩ ∧ b < w.heap.size ∧ w.cell? ⟨b, off + j, none⟩ = some (.int .u8 (ss.getD j 0)) ∧ 0 ≤ ss.getD j 0 ∧ ss.getD j 0 ≤ 255) :
    Calls Ybaf.prog 7 #[.slice a n c] w fun e w' => ∃ L G : Nat, e = .returned (.pointer (some ⟨L, 0, none⟩)) ∧ w.heap.size ≤ L ∧ w.heap.size ≤ G ∧ LogAt w' L G n (fun j => (ss.getD j 0 % 5).toNat) ∧ Below w.heap.size w w' := by
  obtain ⟨i, hi, hz0, hz1, hz2⟩ := info_parts info34
  have HA := hide hc
  clear hc
  go_enter Ybaf.func7, Ybaf.ntmps7
  go_wp2_with (at_make; go_must (refine wpList_make_full _ rfl _ _ 35 rfl w.heap.size 34 i _ 2 Ybaf.underlying35 hi hz0 hz1 _ _ _ _ n rfl rfl rfl rfl ?q1 ?q2 ?q3 ?_))
  case q1 => rw [hz2]; omega
  case q2 => unfold maxLen; omega
  case q3 => exact Nat.le_refl _
  intro w1 hown hgrow
  have hb1 : Below w.heap.size w w1 := (Below.refl _ w).grown hgrow (Nat.le_refl _) (by intro k hk; cases hk)
  have hB : Building w w1 w.heap.size n 0 (fun j => (ss.getD j 0 % 5).toNat) := by
    refine ⟨(hown.lt w.heap.size rfl).2, fun o ho => ?_, fun o => hown.frozenAt o, fun j hj => by omega, fun j hj => by omega, hb1⟩
    have hl := hown.1
    rw [hown.cellAt o (by omega)]
    exact ⟨_, List.getElem?_eq_getElem (by omega)⟩
  have HB := hide hB
  clear hown hgrow hb1 hB hi hz0 hz1 hz2
  go_wp2_with fail
  go_loopw [11] (fun t wr => ∃ k : Nat, k ≤ n ∧ t = .int .i64 k ∧ Building w wr w.heap.size n k (fun j => (ss.getD j 0 % 5).toNat)) (fun t _ => n - (intOf t).toNat)
  case atStart => exact ⟨0, Nat.zero_le _, rfl, HB.out⟩
  case round =>
    obtain ⟨k, hk, rfl, hM⟩ := hrel
    by_cases hlt : k < n
    · obtain ⟨b, off, rfl, hb, hx, hx0, hx1⟩ := HA.out k hlt
      have hx' := (hM.bel.cell (p := ⟨b, off + k, none⟩) hb).trans hx
      generalize hxx : ss.getD k 0 = x at *
      have HX := hide hxx
      clear hxx
      have g1 : 0 ≤ x % 5 := by omega
      have g2 : x % 5 < 5 := by omega
      clear hx
      obtain ⟨i', hi', hz0', hz1', hz2'⟩ := info_parts info194
      go_wp2_with (at_make; go_must (refine wpList_make_full _ rfl _ _ 32 rfl w.heap.size 194 i' _ 4 Ybaf.underlying32 hi' hz0' hz1' _ _ _ _ (x % 5).toNat rfl rfl (by omega) (by omega) (by rw [hz2']; omega) (by unfold maxLen; omega) (by have := hM.bel.size; omega) ?_))
      intro w2 _ hgrow
      obtain ⟨v0, e0⟩ := hM.all (k * 2) (by omega)
      obtain ⟨v1, e1⟩ := hM.all (k * 2 + 1) (by omega)
      have hG := hM.lt
      have e0' : w2.cell? ⟨w.heap.size, k * 2, none⟩ = some v0 := hgrow.cell e0 (by simp)
      have e1' : w2.cell? ⟨w.heap.size, k * 2 + 1, none⟩ = some v1 := hgrow.cell e1 (by simp)
      have f0' : w2.frozen? ⟨w.heap.size, k * 2, none⟩ = false := (World.frozen?_of_block (a := ⟨w.heap.size, k * 2, none⟩) (hgrow.block _ hG (by simp))).trans (hM.fz _)
      have f1' : w2.frozen? ⟨w.heap.size, k * 2 + 1, none⟩ = false := (World.frozen?_of_block (a := ⟨w.heap.size, k * 2 + 1, none⟩) (hgrow.block _ hG (by simp))).trans (hM.fz _)
      clear hi' hz0' hz1' hz2'
      have HM := hide hM
      have HG := hide hgrow
      clear hM hgrow e0 e1
      go_wp2
      go_roundw
      case rel =>
        refine ⟨k + 1, by omega, by go_num, ?_⟩
        have gr := HG.out
        have M := HM.out
        have hcell : ∀ o, o ≠ k * 2 → o ≠ k * 2 + 1 → ∀ u, wr.cell? ⟨w.heap.size, o, none⟩ = some u → ((w2.setCell ⟨w.heap.size, k * 2, none⟩ (.string { data := #[104] })).setCell ⟨w.heap.size, k * 2 + 1, none⟩ (.slice (some ⟨wr.heap.size, 0, none⟩) (x % 5).toNat (x % 5).toNat)).cell? ⟨w.heap.size, o, none⟩ = some u := by
          intro o h1 h2 u hu
          rw [World.cell?_setCell_other _ _ _ _ (by simp <;> omega), World.cell?_setCell_other _ _ _ _ (by simp <;> omega)]
          exact gr.cell hu (by simp)
        have c0 : ((w2.setCell ⟨w.heap.size, k * 2, none⟩ (.string { data := #[104] })).setCell ⟨w.heap.size, k * 2 + 1, none⟩ (.slice (some ⟨wr.heap.size, 0, none⟩) (x % 5).toNat (x % 5).toNat)).cell? ⟨w.heap.size, k * 2, none⟩ = some (.string { data := #[104] }) := by
          rw [World.cell?_setCell_other _ _ _ _ (by simp)]
          exact World.cell?_setCell_same _ _ _ e0'
        have c1 : ((w2.setCell ⟨w.heap.size, k * 2, none⟩ (.string { data := #[104] })).setCell ⟨w.heap.size, k * 2 + 1, none⟩ (.slice (some ⟨wr.heap.size, 0, none⟩) (x % 5).toNat (x % 5).toNat)).cell? ⟨w.heap.size, k * 2 + 1, none⟩ = some (.slice (some ⟨wr.heap.size, 0, none⟩) (x % 5).toNat (x % 5).toNat) :=
          World.cell?_setCell_same _ _ (u := v1) _ (by rw [World.cell?_setCell_other _ _ _ _ (by simp)]; exact e1')
        refine ⟨by simp; have := gr.size; omega, fun o ho => ?_, fun o => ?_, fun j hj => ?_, fun j hj => ?_, ?_⟩
        · by_cases h1 : o = k * 2
          · subst h1; exact ⟨_, c0⟩
          · by_cases h2 : o = k * 2 + 1
            · subst h2; exact ⟨_, c1⟩
            · obtain ⟨u, hu⟩ := M.all o ho
              exact ⟨u, hcell o h1 h2 u hu⟩
        · rw [World.frozen?_setCell, World.frozen?_setCell, World.frozen?_of_block (w := wr) (a := ⟨w.heap.size, o, none⟩) (gr.block _ hG (by simp))]
          exact M.fz o
        · by_cases h1 : j = k
          · subst h1; exact c0
          · exact hcell _ (by omega) (by omega) _ (M.nm j (by omega))
        · by_cases h1 : j = k
          · subst h1; exact ⟨some ⟨wr.heap.size, 0, none⟩, by simp only [HX.out]; exact c1⟩
          · obtain ⟨u, hu⟩ := M.ev j (by omega)
            exact ⟨u, hcell _ (by omega) (by omega) _ hu⟩
        · exact ((M.bel.grown gr M.bel.size (by intro k hk; cases hk)).setCell (by simp) _).setCell (by simp) _
      case measure => simp [intOf]; omega
    · have hkn : k = n := by omega
      subst hkn
      have HM := hide hM
      have hG := hM.lt
      clear hM
      go_wp2
      go_ret
      have M := HM.out
      refine ⟨wr.heap.size, w.heap.size, rfl, M.bel.size, Nat.le_refl _, ⟨?_, fun j hj => cell_alloc_old (M.nm j hj), fun j hj => ?_⟩, M.bel.alloc M.bel.size _⟩
      · simp [go_sem]
      · obtain ⟨u, hu⟩ := M.ev j hj
        exact ⟨u, cell_alloc_old hu⟩

/-- The clock: entry j names host H j % n with the count C j. -/
structure ClockAt (w : World) (a : Option Addr) (m n : Nat) (H C : Nat → Int) : Prop where
  ent : ∀ j, j < m → ∃ g, a = some ⟨g, 0, none⟩ ∧ w.cell? ⟨g, j * 2, none⟩ = some (.int .i64 (H j % (n : Int))) ∧ w.cell? ⟨g, j * 2 + 1, none⟩ = some (.int .u64 (C j))

structure Clocking (w wr : World) (G m n k : Nat) (H C : Nat → Int) : Prop where
  lt : G < wr.heap.size
  all : ∀ o, o < m * 2 → ∃ v, wr.cell? ⟨G, o, none⟩ = some v
  fz : ∀ o, wr.frozen? ⟨G, o, none⟩ = false
  h : ∀ j, j < k → wr.cell? ⟨G, j * 2, none⟩ = some (.int .i64 (H j % (n : Int)))
  c : ∀ j, j < k → wr.cell? ⟨G, j * 2 + 1, none⟩ = some (.int .u64 (C j))
  bel : Below w.heap.size w wr

theorem clock_zero (a : Option Addr) (m c : Nat) (w : World) : Calls Ybaf.prog 8 #[.int .i64 0, .slice a m c] w fun e w' => e = .returned (.slice none 0 0) ∧ w' = w := by
  go_enter Ybaf.func8, Ybaf.ntmps8
  go_wp2
  go_ret
  exact ⟨rfl, rfl⟩

set_option maxHeartbeats 1000000 in
set_option maxRecDepth 100000 in
theorem clock (a : Option Addr) (n m c : Nat) (H C : Nat → Int) (w : World) (hn0 : 0 < n) (hn : n ≤ 256) (hm : m ≤ 1024)
    (hc : ∀ j, j < m → ∃ b off, a = some ⟨b, off, none⟩ ∧ b < w.heap.size ∧ w.cell? ⟨b, off + j * 2, none⟩ = some (.int .u8 (H j)) ∧ w.cell? ⟨b, off + j * 2 + 1, none⟩ = some (.int .u64 (C j)) ∧ 0 ≤ H j ∧ H j ≤ 255) :
    Calls Ybaf.prog 8 #[.int .i64 n, .slice a m c] w fun e w' => ∃ g, e = .returned (.slice (some ⟨g, 0, none⟩) m m) ∧ g < w'.heap.size ∧ ClockAt w' (some ⟨g, 0, none⟩) m n H C ∧ Below w.heap.size w w' := by
  obtain ⟨i, hi, hz0, hz1, hz2⟩ := info_parts info31
  have e0 : ((n : Int) == 0) = false := by simp; omega
  have HA := hide hc
  clear hc
  go_enter Ybaf.func8, Ybaf.ntmps8
  go_wp2_with (at_make; go_must (refine wpList_make_full _ rfl _ _ 27 rfl w.heap.size 31 i _ 2 Ybaf.underlying27 hi hz0 hz1 _ _ _ _ m rfl rfl rfl rfl ?q1 ?q2 ?q3 ?_))
  case q1 => rw [hz2]; omega
  case q2 => unfold maxLen; omega
  case q3 => exact Nat.le_refl _
  intro w1 hown hgrow
  have hb1 : Below w.heap.size w w1 := (Below.refl _ w).grown hgrow (Nat.le_refl _) (by intro k hk; cases hk)
  have hB : Clocking w w1 w.heap.size m n 0 H C := by
    refine ⟨(hown.lt w.heap.size rfl).2, fun o ho => ?_, fun o => hown.frozenAt o, fun j hj => by omega, fun j hj => by omega, hb1⟩
    have hl := hown.1
    rw [hown.cellAt o (by omega)]
    exact ⟨_, List.getElem?_eq_getElem (by omega)⟩
  have HB := hide hB
  clear hown hgrow hb1 hB hi hz0 hz1 hz2
  go_wp2_with fail
  go_loopw [15] (fun t wr => ∃ k : Nat, k ≤ m ∧ t = .int .i64 k ∧ Clocking w wr w.heap.size m n k H C) (fun t _ => m - (intOf t).toNat)
  case atStart => exact ⟨0, Nat.zero_le _, rfl, HB.out⟩
  case round =>
    obtain ⟨k, hk, rfl, hM⟩ := hrel
    by_cases hlt : k < m
    · obtain ⟨b, off, rfl, hb, hx, hy, hx0, hx1⟩ := HA.out k hlt
      have hx' := (hM.bel.cell (p := ⟨b, off + k * 2, none⟩) hb).trans hx
      have hy' := (hM.bel.cell (p := ⟨b, off + k * 2 + 1, none⟩) hb).trans hy
      obtain ⟨v0, e0'⟩ := hM.all (k * 2) (by omega)
      obtain ⟨v1, e1'⟩ := hM.all (k * 2 + 1) (by omega)
      have f0' := hM.fz (k * 2)
      have f1' := hM.fz (k * 2 + 1)
      have hG := hM.lt
      have hbr : b < wr.heap.size := by have := hM.bel.size; omega
      generalize hxx : H k = x at *
      generalize hyy : C k = y at *
      have HX := hide hxx
      have HY := hide hyy
      have HM := hide hM
      have g1 : 0 ≤ x % (n : Int) := Int.emod_nonneg _ (by omega)
      have g2 : x % (n : Int) < n := Int.emod_lt_of_pos _ (by omega)
      have g3 : (k : Int) < (m : Int) := by omega
      clear hx hy hxx hyy hM
      go_wp2
      go_region
      all_goals go_wp2
      go_roundw
      case rel =>
        refine ⟨k + 1, by omega, by go_num, ?_⟩
        have M := HM.out
        have c0 : ((wr.setCell ⟨w.heap.size, k * 2, none⟩ (.int .i64 (x % (n : Int)))).setCell ⟨w.heap.size, k * 2 + 1, none⟩ (.int .u64 y)).cell? ⟨w.heap.size, k * 2, none⟩ = some (.int .i64 (x % (n : Int))) := by
          rw [World.cell?_setCell_other _ _ _ _ (by simp)]
          exact World.cell?_setCell_same _ _ _ e0'
        have c1 : ((wr.setCell ⟨w.heap.size, k * 2, none⟩ (.int .i64 (x % (n : Int)))).setCell ⟨w.heap.size, k * 2 + 1, none⟩ (.int .u64 y)).cell? ⟨w.heap.size, k * 2 + 1, none⟩ = some (.int .u64 y) :=
          World.cell?_setCell_same _ _ (u := v1) _ (by rw [World.cell?_setCell_other _ _ _ _ (by simp)]; exact e1')
        have hcell : ∀ o, o ≠ k * 2 → o ≠ k * 2 + 1 → ∀ u, wr.cell? ⟨w.heap.size, o, none⟩ = some u → ((wr.setCell ⟨w.heap.size, k * 2, none⟩ (.int .i64 (x % (n : Int)))).setCell ⟨w.heap.size, k * 2 + 1, none⟩ (.int .u64 y)).cell? ⟨w.heap.size, o, none⟩ = some u := by
          intro o h1 h2 u hu
          rw [World.cell?_setCell_other _ _ _ _ (by simp <;> omega), World.cell?_setCell_other _ _ _ _ (by simp <;> omega)]
          exact hu
        refine ⟨by simp; omega, fun o ho => ?_, fun o => ?_, fun j hj => ?_, fun j hj => ?_, ?_⟩
        · by_cases h1 : o = k * 2
          · subst h1; exact ⟨_, cell_alloc_old c0⟩
          · by_cases h2 : o = k * 2 + 1
            · subst h2; exact ⟨_, cell_alloc_old c1⟩
            · obtain ⟨u, hu⟩ := M.all o ho
              exact ⟨u, cell_alloc_old (hcell o h1 h2 u hu)⟩
        · show World.frozen? (World.alloc _ _) _ = false
          rw [((Below.refl wr.heap.size _).alloc (by simp) _).frozen (p := ⟨w.heap.size, o, none⟩) hG, World.frozen?_setCell, World.frozen?_setCell]
          exact M.fz o
        · by_cases h1 : j = k
          · subst h1; rw [HX.out]; exact cell_alloc_old c0
          · exact cell_alloc_old (hcell _ (by omega) (by omega) _ (M.h j (by omega)))
        · by_cases h1 : j = k
          · subst h1; rw [HY.out]; exact cell_alloc_old c1
          · exact cell_alloc_old (hcell _ (by omega) (by omega) _ (M.c j (by omega)))
        · exact (((M.bel.setCell (by simp) _).setCell (by simp) _).alloc (by simp; omega) _).drew
      case measure => simp [intOf]; omega
    · have hkn : k = m := by omega
      subst hkn
      have HM := hide hM
      clear hM
      go_wp2
      go_ret
      have M := HM.out
      exact ⟨w.heap.size, rfl, M.lt, ⟨fun j hj => ⟨w.heap.size, rfl, M.h j hj, M.c j hj⟩⟩, M.bel⟩

/-! ### checkNamed -/
theorem cell_at {w : World} {cs : Array Value} {t : TypeId} {b o : Nat} {v : Value} (hb : b = w.heap.size) (h : cs[o]? = some v) : (w.alloc (.cells cs t)).cell? ⟨b, o, none⟩ = some v := by
  subst hb
  have e : (w.alloc (.cells cs t)).heap[(⟨w.heap.size, o, none⟩ : Addr).block]? = some (.cells cs t) := heap_alloc_new w _
  unfold World.cell?
  rw [e]
  simpa using h
theorem bcell {W w1 : World} (hb : Below W.heap.size W w1) : ∀ b o, b < W.heap.size → w1.cell? ⟨b, o, none⟩ = W.cell? ⟨b, o, none⟩ :=
  fun b o h => hb.cell (p := ⟨b, o, none⟩) h
/-- Entry j is good. -/
def okE (K : Nat → Nat) (n : Nat) (H C : Nat → Int) (j : Nat) : Bool := !((K (H j % (n : Int)).toNat : Int) == 0) && !decide ((K (H j % (n : Int)).toNat : Int) < C j)
def okTo (K : Nat → Nat) (n : Nat) (H C : Nat → Int) : Nat → Bool
  | 0 => true
  | k + 1 => okTo K n H C k && okE K n H C k
theorem okTo_false (K : Nat → Nat) (n : Nat) (H C : Nat → Int) (k : Nat) (h : okE K n H C k = false) : ∀ m, k < m → okTo K n H C m = false := by
  intro m hm
  induction m with
  | zero => omega
  | succ m ih =>
    by_cases e : k = m
    · subst e; simp [okTo, h]
    · simp [okTo, ih (by omega)]

/-- What is read behind later steps. -/
theorem LogAt.later {w w' : World} {B L G n : Nat} {K : Nat → Nat} (h : LogAt w L G n K) (hb : Below B w w') (hL : L < B) (hG : G < B) : LogAt w' L G n K :=
  ⟨(hb.cell (p := ⟨L, 0, none⟩) hL).trans h.l0, fun j hj => (hb.cell (p := ⟨G, j * 2, none⟩) hG).trans (h.nm j hj), fun j hj => by
    obtain ⟨a, ha⟩ := h.ev j hj
    exact ⟨a, (hb.cell (p := ⟨G, j * 2 + 1, none⟩) hG).trans ha⟩⟩

set_option maxHeartbeats 2000000 in
set_option maxRecDepth 100000 in
theorem check (L G n m c : Nat) (g : Nat) (K : Nat → Nat) (H C : Nat → Int) (w : World) (hn0 : 0 < n) (hn : n ≤ 256) (hm : m ≤ 1024) (hK : ∀ j, K j < 5) (hC : ∀ j, 0 ≤ C j ∧ C j ≤ 18446744073709551615)
    (hl : LogAt w L G n K) (hcl : ClockAt w (some ⟨g, 0, none⟩) m n H C) (hLw : L < w.heap.size) (hGw : G < w.heap.size) (hgw : g < w.heap.size) :
    Calls Ybaf.prog 9 #[.pointer (some ⟨L, 0, none⟩), .slice (some ⟨g, 0, none⟩) m c] w fun e w' => ((okTo K n H C m = true ∧ e = .returned .nilIface) ∨ (okTo K n H C m = false ∧ ∃ a, e = .returned (.iface 108 (.pointer (some a))))) ∧ Below w.heap.size w w' := by
  have HL := hide hl
  have HC := hide hcl
  have HK := hide hK
  have HCC := hide hC
  clear hl hcl hK hC
  go_enter Ybaf.func9, Ybaf.ntmps9
  go_wp2_with fail
  go_loopw [10] (fun t wr => ∃ k : Nat, k ≤ m ∧ t = .int .i64 k ∧ okTo K n H C k = true ∧ Below w.heap.size w wr) (fun t _ => m - (intOf t).toNat)
  case atStart => exact ⟨0, Nat.zero_le _, rfl, rfl, Below.refl _ _⟩
  case round =>
    obtain ⟨k, hk, rfl, hok, hbel⟩ := hrel
    have HOK := hide hok
    have HB := hide hbel
    have hsz := hbel.size
    clear hok hbel
    by_cases hlt : k < m
    · have hl := HL.out.later HB.out hLw hGw
      obtain ⟨g', hg', c0, c1⟩ := HC.out.ent k hlt
      cases hg'
      have c0' := (HB.out.cell (p := ⟨g, k * 2, none⟩) hgw).trans c0
      have c1' := (HB.out.cell (p := ⟨g, k * 2 + 1, none⟩) hgw).trans c1
      have hr0 : 0 ≤ H k % (n : Int) := Int.emod_nonneg _ (by omega)
      have hr1 : H k % (n : Int) < n := Int.emod_lt_of_pos _ (by omega)
      have l0 := hl.l0
      have lnm := hl.nm (H k % (n : Int)).toNat (by omega)
      obtain ⟨ea, lev⟩ := hl.ev (H k % (n : Int)).toNat (by omega)
      have hk5 := HK.out (H k % (n : Int)).toNat
      obtain ⟨hcc0, hcc1⟩ := HCC.out k
      have HE : Hid (okE K n H C k = (!((K (H k % (n : Int)).toNat : Int) == 0) && !decide ((K (H k % (n : Int)).toNat : Int) < C k))) := rfl
      generalize K (H k % (n : Int)).toNat = kk at *
      generalize H k % (n : Int) = hh at *
      generalize C k = cc at *
      clear hl c0 c1
      have hkm : (k : Int) < (m : Int) := by omega
      have hL' : L < wr.heap.size := by omega
      have hG' : G < wr.heap.size := by omega
      by_cases hk0 : kk = 0
      · subst hk0
        have HE0 : Hid (okE K n H C k = false) := by rw [Hid, HE.out]; simp
        clear HE
        go_wp2
        go_quiet (fail)
        go_wp2_with fail
        refine (errorf_a _ _ _ (by exact cell_at (by simp) rfl)).mono ?_
        rintro e w2 ⟨⟨ad, rfl⟩, hb2⟩
        have HB2 : Hid (Below w.heap.size w w2) := (((below_drewN (HB.out.alloc hsz _) nq).alloc (by simp; omega) _).trans (hb2.mono (by simp; omega)))
        clear hb2
        go_wp2
        go_ret
        exact ⟨.inr ⟨okTo_false K n H C k HE0.out m hlt, ad, rfl⟩, HB2.out⟩
      · have e0 : ((kk : Int) == 0) = false := by simp; omega
        by_cases hck : (kk : Int) < cc
        · have HE0 : Hid (okE K n H C k = false) := by rw [Hid, HE.out]; simp [hck]
          clear HE
          go_wp2
          go_quiet (fail)
          go_wp2
          go_quiet (fail)
          go_wp2
          go_region_held3 (fun w' => w'.cell? ⟨wr.heap.size, 1, none⟩ = some (.int .u64 cc) ∧ w'.cell? ⟨G, hh.toNat * 2, none⟩ = some (.string { data := #[104] }) ∧ w'.cell? ⟨G, hh.toNat * 2 + 1, none⟩ = some (.slice ea kk kk))
            (first | (simp [go_sem, *]; done) | (refine ⟨cell_alloc_old ?_, cell_alloc_old ?_, cell_alloc_old ?_⟩ <;> simp [*]; done))
            (first
              | (go_at_call 18; refine (eventCount_any _ _).mono ?_; rintro e w2 ⟨⟨sx, rfl⟩, hb2⟩; have hbc := bcell hb2; have hz2 : wr.heap.size + 1 ≤ w2.heap.size := (by have := hb2.size; simp at this; omega); have hG2 : G < w2.heap.size := (by omega); have hw2 : wr.heap.size < w2.heap.size := (by omega))
              | (go_at_call 17; refine (errorf_b _ _ _ _ _ (by exact cell_at (by simp) rfl) (by exact cell_at (by simp) rfl) (by exact cell_at (by simp) rfl)).mono ?_; rintro e w3 ⟨⟨ad, rfl⟩, hb3⟩; have hbd := bcell hb3))
          have HB3 : Hid (Below w.heap.size w w3) := by
            refine Below.trans (Below.alloc (Below.trans ?_ (hb2.mono (by simp; omega))) (by omega) _) (hb3.mono (by simp; omega))
            repeat (first | exact HB.out | exact HB.out.alloc hsz _ | apply Below.drew | apply below_drewN)
          clear hb2 hb3 hbc hbd
          go_wp2
          go_ret
          exact ⟨.inr ⟨okTo_false K n H C k HE0.out m hlt, ad, rfl⟩, HB3.out⟩
        · have HE1 : Hid (okTo K n H C (k + 1) = true) := by
            show (okTo K n H C k && okE K n H C k) = true
            rw [HOK.out, HE.out]
            simp [hck, hk0]
          have d1 : decide ((kk : Int) < cc) = false := by simpa using hck
          clear HE
          go_wp2
          go_quiet (fail)
          go_wp2
          go_quiet (fail)
          go_wp2
          go_roundw
          case rel =>
            refine ⟨k + 1, by omega, by go_num, HE1.out, ?_⟩
            repeat (first | exact HB.out | exact HB.out.alloc hsz _ | apply Below.drew | apply below_drewN)
          case measure => simp [intOf]; omega
    · have hkm : k = m := by omega
      subst hkm
      go_wp2
      go_ret
      exact ⟨.inl ⟨HOK.out, rfl⟩, HB.out⟩
end Go.Proofs.YbulkbabqFmt
