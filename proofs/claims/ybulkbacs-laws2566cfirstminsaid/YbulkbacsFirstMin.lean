import Derived.Test.YbulkbacsHist
namespace Go.Proofs.Ybulkbacs.lawS2566CFirstMin
open Go.ChangeShapes Go.WideShapes Go.ChangeAt Go.RowKit

/-! ### THE PLAIN LAW -/
/-- The index that the j-th byte of 'order' names. -/
def V (os : List Int) (n : Nat) (j : Nat) : Int := os.getD j 0 % (n : Int)
def S (s : List Int) (i : Int) : Int := s.getD i.toNat 0
/-- What keepFault holds behind k offers. -/
def Best (s os : List Int) (n k : Nat) (b : Int) : Prop :=
  (k = 0 ∧ b = -1) ∨ ∃ i, i < k ∧ b = V os n i ∧ (∀ j, j < i → S s b < S s (V os n j)) ∧ ∀ j, j < k → S s b ≤ S s (V os n j)

theorem V_range (os : List Int) (n j : Nat) (hn : 0 < n) : 0 ≤ V os n j ∧ V os n j < n := by
  unfold V
  exact ⟨Int.emod_nonneg _ (by omega), Int.emod_lt_of_pos _ (by omega)⟩

theorem best_lt {s os : List Int} {n k : Nat} {b : Int} (hn : 0 < n) (h : Best s os n k b) : b < n := by
  rcases h with ⟨_, rfl⟩ | ⟨i, _, rfl, _⟩
  · omega
  · exact (V_range os n i hn).2

theorem best_step {s os : List Int} {n k : Nat} {b : Int} (hn : 0 < n) (h : Best s os n k b) : Best s os n (k + 1) (kf s b (V os n k)) := by
  unfold kf
  rcases h with ⟨rfl, rfl⟩ | ⟨i, hi, hb, h1, h2⟩
  · rw [if_pos (.inl (by omega))]
    refine .inr ⟨0, by omega, rfl, fun j hj => by omega, fun j hj => ?_⟩
    have : j = 0 := by omega
    subst this
    exact Int.le_refl _
  · have hb0 : ¬ b < 0 := by have := (V_range os n i hn).1; omega
    split
    · rename_i h
      have h3 : S s (V os n k) < S s b := by
        rcases h with h | h
        · exact absurd h hb0
        · exact h
      refine .inr ⟨k, by omega, rfl, fun j hj => ?_, fun j hj => ?_⟩
      · have := h2 j hj; omega
      · by_cases e : j = k
        · subst e; exact Int.le_refl _
        · have := h2 j (by omega); omega
    · rename_i h
      have h3 : ¬ S s (V os n k) < S s b := fun h' => h (.inr h')
      refine .inr ⟨i, by omega, hb, h1, fun j hj => ?_⟩
      by_cases e : j = k
      · subst e; omega
      · exact h2 j (by omega)

/-- The least so far. -/
def Least (s os : List Int) (n l k : Nat) (m : Int) : Prop := (∃ i, i < l ∧ m = S s (V os n i)) ∧ ∀ j, j < k → m ≤ S s (V os n j)

theorem found {s os : List Int} {n l k : Nat} {b m : Int} (hb : Best s os n l b) (hm : Least s os n l l m) (hk : k < l) (hne : ∀ j, j < k → S s (V os n j) ≠ m) (he : S s (V os n k) = m) : b = V os n k := by
  rcases hb with ⟨rfl, _⟩ | ⟨i, hi, rfl, h1, h2⟩
  · omega
  obtain ⟨⟨t, ht, hmt⟩, hmin⟩ := hm
  have e1 : S s (V os n i) = m := by
    have a := h2 t ht
    have c := hmin i hi
    omega
  by_cases h : k < i
  · have := h1 k h; omega
  · by_cases h' : i < k
    · exact absurd e1 (hne i h')
    · have : i = k := by omega
      rw [this]
theorem must {s os : List Int} {n l : Nat} {m : Int} (hm : Least s os n l l m) (hne : ∀ j, j < l → S s (V os n j) ≠ m) : False := by
  obtain ⟨⟨t, ht, hmt⟩, _⟩ := hm
  exact hne t ht hmt.symm

/-! ### THE WALK -/
/-- What the first loop's rounds hand on: c: the checker's block; f: the block of its one fault; g: the slots' copy. -/
structure Mid (w wr : World) (s os : List Int) (g n cap c f k : Nat) (b : Int) : Prop where
  hb : Best s os n k b
  f0 : wr.cell? ⟨f, 0, none⟩ = some (.int .i32 b)
  fz : wr.frozen? ⟨f, 0, none⟩ = false
  c14 : wr.cell? ⟨c, 14, none⟩ = some (.slice (some ⟨f, 0, none⟩) 1 1)
  c6 : wr.cell? ⟨c, 6, none⟩ = some (.slice (some ⟨g, 0, none⟩) n cap)
  gs : ∀ j, j < n → wr.cell? ⟨g, j, none⟩ = some (.int .i32 (s.getD j 0))
  bel : Below w.heap.size w wr

set_option maxHeartbeats 1000000 in
set_option maxRecDepth 100000 in
theorem core (b0 o0 n c0 : Nat) (s : List Int) (a1 : Option Addr) (l1 c1 : Nat) (os : List Int) (w : World)
    (hn : 0 < n) (hn' : n ≤ 1024) (hs : s.length = n) (hb0 : b0 < w.heap.size) (hc0 : ∀ j, j < n → w.cell? ⟨b0, o0 + j, none⟩ = some (.int .i32 (s.getD j 0)))
    (hl1 : l1 ≤ 1024) (h1 : 0 < l1 → ∃ b1 o1, a1 = some ⟨b1, o1, none⟩ ∧ b1 < w.heap.size ∧ ∀ j, j < l1 → w.cell? ⟨b1, o1 + j, none⟩ = some (.int .u8 (os.getD j 0)) ∧ 0 ≤ os.getD j 0 ∧ os.getD j 0 ≤ 255) :
    Calls Yba.prog 6 #[.slice (some ⟨b0, o0, none⟩) n c0, .slice a1 l1 c1] w fun e w' => e = .returned (.bool true) ∧ Below w.heap.size w w' := by
  have H1 := hide h1
  have H0 := hide hc0
  clear h1 hc0
  have e0 : ((n : Int) == 0) = false := by simp; omega
  have d0 : decide ((1024 : Int) < (n : Int)) = false := by simp; omega
  have d1 : decide ((1024 : Int) < (l1 : Int)) = false := by simp; omega
  go_enter Yba.func6, Yba.ntmps6
  go_wp2_with (go_at_call 11; refine (clone32 b0 o0 n c0 s _ hs hn' (fun j hj => H0.out j hj)).mono ?_; rintro e w1 ⟨g, cap, rfl, hg1, hg2, hgs, hgf, hbel⟩)
  have HG := hide hgs
  clear hgs hgf
  go_loopw [39] (fun i wr => ∃ k : Nat, k ≤ l1 ∧ i = .int .i64 k ∧ ∃ b, Mid w wr s os g n cap (w1.heap.size + 1) w1.heap.size k b) (fun i _ => l1 - (intOf i).toNat)
  case atStart =>
    refine ⟨0, Nat.zero_le _, rfl, -1, .inl ⟨rfl, rfl⟩, ?_, ?_, ?_, ?_, ?_, ?_⟩
    · simp [go_sem]
    · simp [go_sem]
    · simp [go_sem]
    · simp [go_sem]
    · intro j hj
      exact cell_alloc_old (cell_alloc_old (HG.out j hj))
    · exact (hbel.alloc hbel.size _).alloc (by simp; have := hbel.size; omega) _
  case round =>
    obtain ⟨k, hk, rfl, b, hM⟩ := hrel
    by_cases hlt : k < l1
    · obtain ⟨b1, o1, rfl, hb1, hc1⟩ := H1.out (by omega)
      obtain ⟨hcell, ho0, ho1⟩ := hc1 k hlt
      have hcell' := (hM.bel.cell (p := ⟨b1, o1 + k, none⟩) hb1).trans hcell
      have hV := V_range os n k hn
      have HV : Hid (V os n k = os.getD k 0 % (n : Int)) := rfl
      obtain ⟨b14, b6, bf, bfz, bgs⟩ := And.intro hM.c14 (And.intro hM.c6 (And.intro hM.f0 (And.intro hM.fz (hide hM.gs))))
      have hbl := best_lt hn hM.hb
      generalize os.getD k 0 = o at *
      have hv0 : 0 ≤ o % (n : Int) := Int.emod_nonneg _ (by omega)
      have hv1 : o % (n : Int) < n := Int.emod_lt_of_pos _ (by omega)
      clear hc1 hV hcell
      go_wp2_with (go_at_call 12; refine (keep_any (w1.heap.size + 1) g w1.heap.size n cap 1 1 s b 0 (o % (n : Int)) wr b14 b6 bgs.out (by omega) (by omega) hv0 hv1 hbl bf bfz).mono ?_; rintro e w2 ⟨rfl, hS⟩)
      go_roundw
      case rel =>
        refine ⟨k + 1, by omega, by go_num, kf s b (o % (n : Int)), ?_, hS.self, ?_, ?_, ?_, ?_, ?_⟩
        · have := best_step hn hM.hb
          rw [HV.out] at this
          exact this
        · rw [hS.frozen]; exact bfz
        · rw [hS.other _ (by simp)]; exact b14
        · rw [hS.other _ (by simp)]; exact b6
        · intro j hj
          rw [hS.other _ (by simp <;> omega)]
          exact bgs.out j hj
        · exact hM.bel.trans (hS.below _ (by simp <;> omega))
      case measure => simp [intOf]; omega
    · have hkl : k = l1 := by omega
      subst hkl
      have b14 := hM.c14
      have bf := hM.f0
      by_cases hl0 : 0 < k
      · have d2 : decide ((0 : Int) < (k : Int)) = true := by simp; omega
        obtain ⟨b1, o1, rfl, hb1, hc1⟩ := H1.out (by omega)
        have HA : Hid (∀ j, j < k → ∃ o x : Int, wr.cell? ⟨b1, o1 + j, none⟩ = some (.int .u8 o) ∧ 0 ≤ o ∧ o ≤ 255 ∧ 0 ≤ o % (n : Int) ∧ o % (n : Int) < n ∧
            wr.cell? ⟨b0, o0 + (o % (n : Int)).toNat, none⟩ = some (.int .i32 x) ∧ Hid (o % (n : Int) = V os n j) ∧ Hid (x = S s (V os n j))) := fun j hj => by
          have hv := V_range os n j hn
          refine ⟨os.getD j 0, S s (V os n j), (hM.bel.cell (p := ⟨b1, o1 + j, none⟩) hb1).trans (hc1 j hj).1, (hc1 j hj).2.1, (hc1 j hj).2.2, hv.1, hv.2, ?_, rfl, rfl⟩
          refine (hM.bel.cell (p := ⟨b0, o0 + (V os n j).toNat, none⟩) hb0).trans ?_
          exact H0.out _ (by omega)
        have HM := hide hM
        clear hc1 H1 HG H0 hM hbel
        obtain ⟨o, x, g1, g2, g3, g4, g5, g6, g7, g8⟩ := HA.out 0 hl0
        rw [Nat.add_zero] at g1
        go_wp2_with fail
        go_loop [65, 11] (fun i m => ∃ (j : Nat) (z : Int), j ≤ k ∧ i = .int .i64 j ∧ m = .int .i32 z ∧ Least s os n k j z) (fun i _ => k - (intOf i).toNat)
        case atStart => exact ⟨0, x, Nat.zero_le _, rfl, rfl, ⟨0, hl0, g8.out⟩, fun j hj => by omega⟩
        case round =>
          obtain ⟨j, z, hj, rfl, rfl, hL⟩ := hrel
          have HL := hide hL
          clear hL
          by_cases hlt : j < k
          · obtain ⟨o', x', g1', g2', g3', g4', g5', g6', g7', g8'⟩ := HA.out j hlt
            have HS : Hid (Least s os n k (j + 1) (if x' < z then x' else z)) := by
              obtain ⟨q1, q2⟩ := HL.out
              have e := g8'.out
              refine ⟨?_, fun t ht => ?_⟩
              · split
                · exact ⟨j, hlt, e⟩
                · exact q1
              · by_cases ht' : t = j
                · subst ht'; rw [← e]; split <;> omega
                · have := q2 t (by omega); split <;> omega
            by_cases hxz : x' < z
            · rw [if_pos hxz] at HS
              go_wp2
              go_round
              case rel => exact ⟨j + 1, x', by omega, by go_num, rfl, HS.out⟩
              case measure => simp [intOf]; omega
            · rw [if_neg hxz] at HS
              go_wp2
              go_round
              case rel => exact ⟨j + 1, z, by omega, by go_num, rfl, HS.out⟩
              case measure => simp [intOf]; omega
          · have hjk : j = k := by omega
            subst hjk
            go_wp2
            go_loop [83, 10] (fun i m => ∃ t : Nat, t ≤ j ∧ i = .int .i64 t ∧ m = .int .i32 (-1) ∧ ∀ q, q < t → S s (V os n q) ≠ z) (fun i _ => j - (intOf i).toNat)
            case atStart => exact ⟨0, Nat.zero_le _, rfl, rfl, fun q hq => by omega⟩
            case round =>
              obtain ⟨t, ht, rfl, rfl, hne⟩ := hrel
              have HN := hide hne
              clear hne
              by_cases hlt : t < j
              · obtain ⟨o', x', g1', g2', g3', g4', g5', g6', g7', g8'⟩ := HA.out t hlt
                by_cases hxz : x' = z
                · subst hxz
                  have hf := found HM.out.hb HL.out hlt HN.out g8'.out.symm
                  rw [← g7'.out] at hf
                  subst hf
                  have e9 : ((o' % (n : Int)) == o' % (n : Int)) = true := by simp
                  go_wp2
                  go_ret
                  exact ⟨rfl, HM.out.bel⟩
                · have e9 : (x' == z) = false := by simpa using hxz
                  have HX := hide hxz
                  clear hxz
                  go_wp2
                  go_round
                  case rel =>
                    refine ⟨t + 1, by omega, by go_num, rfl, fun q hq => ?_⟩
                    by_cases e : q = t
                    · subst e; rw [← g8'.out]; exact HX.out
                    · exact HN.out q (by omega)
                  case measure => simp [intOf]; omega
              · have : t = j := by omega
                subst this
                exact (must HL.out HN.out).elim
      · have hk0 : k = 0 := by omega
        subst hk0
        have hbm : b = -1 := by
          rcases hM.hb with ⟨_, h⟩ | ⟨i, hi, _⟩
          · exact h
          · omega
        subst hbm
        have HM := hide hM
        clear hM
        go_wp2
        go_ret
        exact ⟨rfl, HM.out.bel⟩
end Go.Proofs.Ybulkbacs.lawS2566CFirstMin
