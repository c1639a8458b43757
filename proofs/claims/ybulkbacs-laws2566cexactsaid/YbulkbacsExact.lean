import Derived.Test.YbulkbacsHist
namespace Go.Proofs.Ybulkbacs.lawS2566CExact
open Go.ChangeShapes Go.WideShapes Go.ChangeAt Go.RowKit

/-- What zzs2566cmapfault makes of one entry. -/
def mf (n : Nat) (x : Int) : Int := if x < 0 then x else x % (n : Int)

set_option maxHeartbeats 1000000 in
set_option maxRecDepth 100000 in
theorem mapfault (b off m c n : Nat) (fs : List Int) (w : World) (hm : m ≤ 1024) (hn0 : 0 < n) (hn : n ≤ 1024)
    (hb : b < w.heap.size) (hc : ∀ j, j < m → w.cell? ⟨b, off + j, none⟩ = some (.int .i32 (fs.getD j 0)) ∧ -2147483648 ≤ fs.getD j 0 ∧ fs.getD j 0 ≤ 2147483647) :
    Calls Yba.prog 10 #[.slice (some ⟨b, off, none⟩) m c, .int .i64 n] w fun e w' => ∃ g, e = .returned (.slice (some ⟨g, 0, none⟩) m m) ∧ w.heap.size ≤ g ∧ g < w'.heap.size ∧
      (∀ j, j < m → w'.cell? ⟨g, j, none⟩ = some (.int .i32 (mf n (fs.getD j 0)))) ∧ (∀ j, w'.frozen? ⟨g, j, none⟩ = false) ∧ Below w.heap.size w w' := by
  obtain ⟨i, hi, hz0, hz1, hz2⟩ := info_parts info21
  have A := hide hc
  clear hc
  go_enter Yba.func10, Yba.ntmps10
  go_wp2_with (at_make; refine wpList_make_full _ rfl _ _ 65 rfl w.heap.size 21 i (.int .i32 0) 1 Yba.underlying65 hi hz0 hz1 _ _ _ _ m rfl rfl rfl rfl ?q1 ?q2 ?q3 ?_)
  case q1 => rw [hz2]; omega
  case q2 => unfold maxLen; omega
  case q3 => exact Nat.le_refl _
  intro w1 hown hgrow
  have hb1 : Below w.heap.size w w1 := (Below.refl _ w).grown hgrow (Nat.le_refl _) (by intro k hk; cases hk)
  have hlt := (hown.lt w.heap.size rfl).2
  have hcs : ∀ j, j < m → w1.cell? ⟨w.heap.size, j, none⟩ = some (.int .i32 0) := fun j hj => by
    rw [hown.cellAt j (by omega)]
    simp [toList_madeCells_one, hj]
  have hfz : ∀ j, w1.frozen? ⟨w.heap.size, j, none⟩ = false := fun j => hown.frozenAt j
  have HI := hide (And.intro hb1 (And.intro hlt (And.intro hcs hfz)))
  clear hown hgrow hb1 hlt hcs hfz hi hz0 hz1 hz2
  go_wp2_with fail
  go_loopw [13] (fun t wr => ∃ k : Nat, k ≤ m ∧ t = .int .i64 k ∧ w.heap.size < wr.heap.size ∧ (∀ j, j < m → wr.cell? ⟨w.heap.size, j, none⟩ = some (.int .i32 (if j < k then mf n (fs.getD j 0) else 0))) ∧ (∀ j, wr.frozen? ⟨w.heap.size, j, none⟩ = false) ∧ Below w.heap.size w wr) (fun t _ => m - (intOf t).toNat)
  case atStart =>
    obtain ⟨h1, h2, h3, h4⟩ := HI.out
    exact ⟨0, Nat.zero_le _, rfl, h2, fun j hj => by simpa using h3 j hj, h4, h1⟩
  case round =>
    obtain ⟨k, hk, rfl, hsz, hcs, hfz, hbel⟩ := hrel
    have HC := hide hcs
    have HF := hide hfz
    have HB := hide hbel
    by_cases hlt : k < m
    · obtain ⟨hx, hx0, hx1⟩ := A.out k hlt
      have hx' := (hbel.cell (p := ⟨b, off + k, none⟩) hb).trans hx
      have ho := hcs k hlt
      have hf := hfz k
      rw [if_neg (by omega)] at ho
      have hstep : ∀ v : Int, v = mf n (fs.getD k 0) → ∀ j, j < m → (wr.setCell ⟨w.heap.size, k, none⟩ (.int .i32 v)).cell? ⟨w.heap.size, j, none⟩ = some (.int .i32 (if j < k + 1 then mf n (fs.getD j 0) else 0)) := by
        intro v hv j hj
        by_cases e : j = k
        · subst e
          rw [World.cell?_setCell_same _ _ _ ho, if_pos (by omega), hv]
        · rw [World.cell?_setCell_other _ _ _ _ (by simp <;> omega), HC.out j hj]
          by_cases h : j < k
          · rw [if_pos h, if_pos (by omega)]
          · rw [if_neg h, if_neg (by omega)]
      have HS := hide hstep
      clear hcs hfz hbel hstep hx
      have HMF : Hid (∀ x, fs.getD k 0 = x → mf n (fs.getD k 0) = if x < 0 then x else x % (n : Int)) := fun x hx => by rw [hx]; rfl
      generalize hxx : fs.getD k 0 = x at *
      have HM := HMF.out x rfl
      have HX := hide HM
      clear HM HMF hxx
      by_cases hneg : x < 0
      · go_wp2
        go_roundw
        case rel => exact ⟨k + 1, by omega, by go_num, by simpa using hsz, HS.out x (by rw [HX.out, if_pos hneg]), fun j => by simpa using HF.out j, HB.out.setCell (by simp) _⟩
        case measure => simp [intOf]; omega
      · go_wp2
        go_roundw
        case rel => exact ⟨k + 1, by omega, by go_num, by simpa using hsz, HS.out _ (by rw [HX.out, if_neg hneg]), fun j => by simpa using HF.out j, HB.out.setCell (by simp) _⟩
        case measure => simp [intOf]; omega
    · have : k = m := by omega
      subst this
      clear hcs hfz hbel
      go_wp2
      go_ret
      refine ⟨w.heap.size, rfl, Nat.le_refl _, hsz, fun j hj => ?_, HF.out, HB.out⟩
      rw [HC.out j hj, if_pos hj]

set_option maxHeartbeats 1000000 in
set_option maxRecDepth 100000 in
theorem equal32 (b1 o1 b2 o2 m c1 c2 : Nat) (zs : List Int) (w : World) (hm : m ≤ 1024)
    (h1 : ∀ j, j < m → w.cell? ⟨b1, o1 + j, none⟩ = some (.int .i32 (zs.getD j 0))) (h2 : ∀ j, j < m → w.cell? ⟨b2, o2 + j, none⟩ = some (.int .i32 (zs.getD j 0))) :
    Calls Yba.prog 13 #[.slice (some ⟨b1, o1, none⟩) m c1, .slice (some ⟨b2, o2, none⟩) m c2] w fun e w' => e = .returned (.bool true) ∧ ∃ q, w' = w.drewN q := by
  have H1 := hide h1
  have H2 := hide h2
  clear h1 h2
  have e0 : ((m : Int) != (m : Int)) = false := by simp
  go_enter Yba.func13, Yba.ntmps13
  go_wp2
  go_loopw [13] (fun t wr => ∃ k : Nat, k ≤ m ∧ t = .int .i64 k ∧ ∃ q, wr = w.drewN q) (fun t _ => m - (intOf t).toNat)
  case atStart => exact ⟨0, Nat.zero_le _, rfl, 0, rfl⟩
  case round =>
    obtain ⟨k, hk, rfl, q, rfl⟩ := hrel
    by_cases hlt : k < m
    · have g1 := H1.out k hlt
      have g2 := H2.out k hlt
      generalize zs.getD k 0 = x at *
      have e1 : (x != x) = false := by simp
      have hkm : (k : Int) < (m : Int) := by omega
      go_wp2
      go_quiet (fail)
      go_wp2
      go_roundw
      case rel => exact ⟨k + 1, by omega, by go_num, _, rfl⟩
      case measure => simp [intOf]; omega
    · go_wp2
      go_ret
      exact ⟨rfl, q, rfl⟩

theorem cell_new (w : World) (cs : Array Value) (t : TypeId) (o : Nat) (v : Value) (h : cs[o]? = some v) : (w.alloc (.cells cs t)).cell? ⟨w.heap.size, o, none⟩ = some v := by
  have e : (w.alloc (.cells cs t)).heap[(⟨w.heap.size, o, none⟩ : Addr).block]? = some (.cells cs t) := heap_alloc_new w _
  unfold World.cell?
  rw [e]
  simpa using h
theorem frozen_alloc_old {w : World} {b o : Nat} {v : Value} {x : Obj} (h : w.cell? ⟨b, o, none⟩ = some v) : (w.alloc x).frozen? ⟨b, o, none⟩ = w.frozen? ⟨b, o, none⟩ :=
  ((Below.refl w.heap.size w).alloc (Nat.le_refl _) x).frozen (p := ⟨b, o, none⟩) (cell_lt h)

/-- What the rest of the law needs of the world behind keepFault. -/
structure Aft (w w4 : World) (fs s : List Int) (gf gg gs b1 o1 m n cap C : Nat) (ri want : Int) : Prop where
  f : ∀ j, j < m → w4.cell? ⟨gf, j, none⟩ = some (.int .i32 (if j = ri.toNat then want else mf n (fs.getD j 0)))
  g : ∀ j, j < m → w4.cell? ⟨gg, j, none⟩ = some (.int .i32 (mf n (fs.getD j 0)))
  sl : ∀ j, j < n → w4.cell? ⟨gs, 0 + j, none⟩ = some (.int .i32 (s.getD j 0))
  a : ∀ j, j < n → w4.cell? ⟨b1, o1 + j, none⟩ = some (.int .i32 (s.getD j 0))
  c : w4.cell? ⟨C, 14, none⟩ = some (.slice (some ⟨gf, 0, none⟩) m m)
  bel : Below w.heap.size w w4

theorem aft {w w3 W w4 : World} {fs s : List Int} {gf gg gs b1 o1 m n cap : Nat} {ri want : Int} (hb1 : b1 < w.heap.size)
    (HB3 : Below w.heap.size w w3) (HF3 : ∀ j, j < m → w3.cell? ⟨gf, j, none⟩ = some (.int .i32 (mf n (fs.getD j 0)))) (HG3 : ∀ j, j < m → w3.cell? ⟨gg, j, none⟩ = some (.int .i32 (mf n (fs.getD j 0))))
    (HS3 : ∀ j, j < n → w3.cell? ⟨gs, j, none⟩ = some (.int .i32 (s.getD j 0))) (H1 : ∀ j, j < n → w.cell? ⟨b1, o1 + j, none⟩ = some (.int .i32 (s.getD j 0)))
    (h1 : w.heap.size ≤ gf) (h2 : gf < w3.heap.size) (hne : gf ≠ gg ∧ gf ≠ gs ∧ gg ≠ gs) (hg : gg < w3.heap.size) (hs : gs < w3.heap.size)
    (hW : Below w3.heap.size w3 W) (hC : W.cell? ⟨w3.heap.size, 14, none⟩ = some (.slice (some ⟨gf, 0, none⟩) m m)) (hS : Sets W w4 ⟨gf, ri.toNat, none⟩ (.int .i32 want)) :
    Aft w w4 fs s gf gg gs b1 o1 m n cap w3.heap.size ri want where
  f := fun j hj => by
    by_cases e : j = ri.toNat
    · subst e; rw [if_pos rfl]; exact hS.self
    · rw [if_neg e, hS.other _ (by simp <;> omega), hW.cell (p := ⟨gf, j, none⟩) h2]; exact HF3 j hj
  g := fun j hj => by
    rw [hS.other _ (by simp <;> omega), hW.cell (p := ⟨gg, j, none⟩) hg]; exact HG3 j hj
  sl := fun j hj => by
    rw [Nat.zero_add, hS.other _ (by simp <;> omega), hW.cell (p := ⟨gs, j, none⟩) hs]; exact HS3 j hj
  a := fun j hj => by
    have hz := HB3.size
    rw [hS.other _ (by simp <;> omega), hW.cell (p := ⟨b1, o1 + j, none⟩) (by simp <;> omega), HB3.cell (p := ⟨b1, o1 + j, none⟩) hb1]; exact H1 j hj
  c := by rw [hS.other _ (by simp <;> omega)]; exact hC
  bel := (HB3.trans (hW.mono HB3.size)).trans (hS.below _ h1)

set_option maxHeartbeats 1000000 in
set_option maxRecDepth 100000 in
theorem core (b0 o0 m c0 b1 o1 n c1 : Nat) (fs s : List Int) (r v : Int) (w : World)
    (hm0 : 0 < m) (hm : m ≤ 1024) (hn0 : 0 < n) (hn : n ≤ 1024) (hs : s.length = n) (hb0 : b0 < w.heap.size) (hb1 : b1 < w.heap.size)
    (hc0 : ∀ j, j < m → w.cell? ⟨b0, o0 + j, none⟩ = some (.int .i32 (fs.getD j 0)) ∧ -2147483648 ≤ fs.getD j 0 ∧ fs.getD j 0 ≤ 2147483647)
    (hc1 : ∀ j, j < n → w.cell? ⟨b1, o1 + j, none⟩ = some (.int .i32 (s.getD j 0)))
    (hr0 : 0 ≤ r) (hr1 : r ≤ 4294967295) (hv0 : 0 ≤ v) (hv1 : v ≤ 4294967295) :
    Calls Yba.prog 5 #[.slice (some ⟨b0, o0, none⟩) m c0, .slice (some ⟨b1, o1, none⟩) n c1, .int .u32 r, .int .u32 v] w fun e w' => e = .returned (.bool true) ∧ Below w.heap.size w w' := by
  have H0 := hide hc0
  have H1 := hide hc1
  clear hc0 hc1
  have e0 : ((m : Int) == 0) = false := by simp; omega
  have e1 : ((n : Int) == 0) = false := by simp; omega
  have d0 : decide ((1024 : Int) < (m : Int)) = false := by simp; omega
  have d1 : decide ((1024 : Int) < (n : Int)) = false := by simp; omega
  have ri0 : 0 ≤ r % (m : Int) := Int.emod_nonneg _ (by omega)
  have ri1 : r % (m : Int) < m := Int.emod_lt_of_pos _ (by omega)
  have vi0 : 0 ≤ v % (n : Int) := Int.emod_nonneg _ (by omega)
  have vi1 : v % (n : Int) < n := Int.emod_lt_of_pos _ (by omega)
  go_enter Yba.func5, Yba.ntmps5
  go_wp2_with fail
  refine (mapfault b0 o0 m c0 n fs w hm hn0 hn hb0 H0.out).mono ?_
  rintro e w1 ⟨gf, rfl, hf1, hf2, hfc, hff, hfb⟩
  have HF1 := hide (And.intro hfc (And.intro hff hfb))
  have hs1 := hfb.size
  clear hfc hff hfb
  go_wp2_with fail
  refine (mapfault b0 o0 m c0 n fs w1 hm hn0 hn (by omega) (fun j hj => ⟨(HF1.out.2.2.cell (p := ⟨b0, o0 + j, none⟩) hb0).trans (H0.out j hj).1, (H0.out j hj).2⟩)).mono ?_
  rintro e w2 ⟨gg, rfl, hg1, hg2, hgc, hgf, hgb⟩
  have HG1 := hide (And.intro hgc (And.intro hgf hgb))
  have hs2 := hgb.size
  clear hgc hgf hgb
  go_wp2_with fail
  have HB2 : Hid (Below w.heap.size w w2) := HF1.out.2.2.trans (HG1.out.2.2.mono (by omega))
  refine (clone32 b1 o1 n c1 s w2 hs hn (fun j hj => (HB2.out.cell (p := ⟨b1, o1 + j, none⟩) hb1).trans (H1.out j hj))).mono ?_
  rintro e w3 ⟨gs, cap, rfl, hk1, hk2, hkc, hkf, hkb⟩
  have HK1 := hide (And.intro hkc (And.intro hkf hkb))
  have hs3 := hkb.size
  clear hkc hkf hkb
  -- all that the rest needs of w3
  have HB3 : Hid (Below w.heap.size w w3) := HB2.out.trans (HK1.out.2.2.mono (by omega))
  have HF3 : Hid ((∀ j, j < m → w3.cell? ⟨gf, j, none⟩ = some (.int .i32 (mf n (fs.getD j 0)))) ∧ ∀ j, w3.frozen? ⟨gf, j, none⟩ = false) := by
    refine ⟨fun j hj => ?_, fun j => ?_⟩
    · rw [HK1.out.2.2.cell (p := ⟨gf, j, none⟩) (by simp; omega), HG1.out.2.2.cell (p := ⟨gf, j, none⟩) (by simp; omega)]; exact HF1.out.1 j hj
    · rw [HK1.out.2.2.frozen (p := ⟨gf, j, none⟩) (by simp; omega), HG1.out.2.2.frozen (p := ⟨gf, j, none⟩) (by simp; omega)]; exact HF1.out.2.1 j
  have HG3 : Hid (∀ j, j < m → w3.cell? ⟨gg, j, none⟩ = some (.int .i32 (mf n (fs.getD j 0)))) := by
    intro j hj
    rw [HK1.out.2.2.cell (p := ⟨gg, j, none⟩) (by simp; omega)]; exact HG1.out.1 j hj
  have HS3 : Hid (∀ j, j < n → w3.cell? ⟨gs, j, none⟩ = some (.int .i32 (s.getD j 0))) := HK1.out.1
  have hne : gf ≠ gg ∧ gf ≠ gs ∧ gg ≠ gs := ⟨by omega, by omega, by omega⟩
  clear HF1 HG1 HK1 HB2
  have hold := HG3.out (r % (m : Int)).toNat (by omega)
  have holdf := HF3.out.1 (r % (m : Int)).toNat (by omega)
  have hffz := HF3.out.2 (r % (m : Int)).toNat
  have hmf : mf n (fs.getD (r % (m : Int)).toNat 0) < n := by
    unfold mf
    split
    · omega
    · exact Int.emod_lt_of_pos _ (by omega)
  have HFR : Hid (∀ j, j < m → j = (r % (m : Int)).toNat → mf n (fs.getD j 0) = mf n (fs.getD (r % (m : Int)).toNat 0)) := fun j _ h => by rw [h]
  generalize mf n (fs.getD (r % (m : Int)).toNat 0) = old at *
  have hsv := HS3.out (v % (n : Int)).toNat (by omega)
  obtain ⟨want, HW⟩ : ∃ want, Hid (kf s old (v % (n : Int)) = want) := ⟨_, rfl⟩
  have r64 : r % (m : Int) ≤ 1024 := by omega
  have HT : Hid (want = kf s old (v % (n : Int))) := HW.out.symm
  have hway : old < 0 ∨ (0 ≤ old ∧ s.getD (v % (n : Int)).toNat 0 < s.getD old.toNat 0) ∨ (0 ≤ old ∧ ¬ s.getD (v % (n : Int)).toNat 0 < s.getD old.toNat 0) := by omega
  rcases hway with q1 | ⟨q1, q2⟩ | ⟨q1, q2⟩
  case' inl =>
    have hwant : want = v % (n : Int) := by rw [← HW.out]; simp [kf, q1]
    subst hwant
    go_wp2_with fail
  case' inr.inl =>
    have hso := HS3.out old.toNat (by omega)
    have hwant : want = v % (n : Int) := by rw [← HW.out]; unfold kf; rw [if_pos (.inr q2)]
    subst hwant
    generalize s.getD (v % (n : Int)).toNat 0 = x at *
    generalize s.getD old.toNat 0 = y at *
    have q4 : decide (old < 0) = false := by simpa using q1
    go_wp2_with fail
    go_quiet (fail)
    go_wp2_with fail
  case' inr.inr =>
    have hso := HS3.out old.toNat (by omega)
    have hwant : old = want := by rw [← HW.out]; unfold kf; rw [if_neg (by rintro (h | h) <;> omega)]
    subst hwant
    generalize s.getD (v % (n : Int)).toNat 0 = x at *
    generalize s.getD old.toNat 0 = y at *
    have q3 : decide (x < y) = false := by simpa using q2
    have q4 : decide (old < 0) = false := by simpa using q1
    go_wp2_with fail
    go_quiet (fail)
    go_wp2_with fail
  all_goals
    refine (keep_any w3.heap.size gs gf n cap m m s old (r % (m : Int)) (v % (n : Int)) _ (by exact cell_new _ _ _ _ _ rfl) (by exact cell_new _ _ _ _ _ rfl) (fun j hj => by exact cell_alloc_old (HS3.out j hj)) ri0 ri1 vi0 vi1 hmf (by exact cell_alloc_old holdf) (by exact (frozen_alloc_old holdf).trans hffz)).mono ?_
    rintro e w4 ⟨rfl, hS⟩
    rw [HW.out] at hS
    have HA := hide (aft (o1 := o1) (cap := cap) hb1 HB3.out HF3.out.1 HG3.out HS3.out H1.out hf1 (by omega) hne (by omega) hk2 (by first | exact (Below.refl _ _).alloc (Nat.le_refl _) _ | exact (below_drewN (Below.refl _ _) _).alloc (Nat.le_refl _) _) (by exact cell_new _ _ _ _ _ rfl) hS)
    clear hS HG3 HF3 HS3 HB3 H1 H0
    have hc14 := HA.out.c
    have em : ((m : Int) != (m : Int)) = false := by simp
    go_wp2_with fail
    go_loopw [94] (fun i wr => ∃ k : Nat, k ≤ m ∧ i = .int .i64 k ∧ ∃ q, wr = w4.drewN q) (fun i _ => m - (intOf i).toNat)
    case atStart => exact ⟨0, Nat.zero_le _, rfl, 0, rfl⟩
    case round =>
      obtain ⟨k, hk, rfl, q, rfl⟩ := hrel
      by_cases hlt : k < m
      · have hkm : (k : Int) < (m : Int) := by omega
        have f1 := HA.out.f k hlt
        have f2 := HA.out.g k hlt
        by_cases hke : (k : Int) = r % (m : Int)
        · have e5 : ((k : Int) == r % (m : Int)) = true := by simpa using hke
          rw [if_pos (by omega)] at f1
          clear hke f2
          have e6 : ∀ x : Int, (x != x) = false := by simp
          go_wp2
          go_roundw
          case rel => exact ⟨k + 1, by omega, by go_num, _, rfl⟩
          case measure => simp [intOf]; omega
        · have e5 : ((k : Int) == r % (m : Int)) = false := by simpa using hke
          rw [if_neg (by omega)] at f1
          clear hke
          generalize mf n (fs.getD k 0) = x at *
          have e6 : (x != x) = false := by simp
          go_wp2
          go_quiet (fail)
          go_wp2
          go_roundw
          case rel => exact ⟨k + 1, by omega, by go_num, _, rfl⟩
          case measure => simp [intOf]; omega
      · go_wp2_with (go_at_call 13; refine (equal32 gs 0 b1 o1 n cap c1 s _ hn (by exact HA.out.sl) (by exact HA.out.a)).mono ?_; rintro e w5 ⟨rfl, q', rfl⟩)
        go_ret
        exact ⟨rfl, below_drewN HA.out.bel _⟩
end Go.Proofs.Ybulkbacs.lawS2566CExact
