import Derived.Test.YbulkbaewSwap
namespace Go.Proofs.Ybulkbaew
open Go.ChangeShapes Go.WideShapes Go.ChangeAt Go.RowKit
set_option linter.unusedVariables false

/-- The block G of n cells holds pre at its head. -/
structure Pref (w : World) (G n : Nat) (pre : List UInt8) : Prop where
  hd : ∀ j, j < pre.length → w.cell? ⟨G, j, none⟩ = some (.int .u8 ((pre.getD j 0).toNat : Int))
  all : ∀ j, j < n → ∃ v, w.cell? ⟨G, j, none⟩ = some v
  fz : ∀ j, w.frozen? ⟨G, j, none⟩ = false
  lt : G < w.heap.size
theorem Pref.set {w : World} {G n : Nat} {pre : List UInt8} (h : Pref w G n pre) (b : UInt8) (hn : pre.length < n) : Pref (w.setCell ⟨G, pre.length, none⟩ (.int .u8 (b.toNat : Int))) G n (pre ++ [b]) where
  hd := fun j hj => by
    obtain ⟨v, hv⟩ := h.all pre.length hn
    by_cases e : j = pre.length
    · subst e
      rw [World.cell?_setCell_same _ _ _ hv]
      simp
    · simp at hj
      rw [World.cell?_setCell_other _ _ _ _ (by simp <;> omega), h.hd j (by omega)]
      rw [List.getD_eq_getElem?_getD, List.getD_eq_getElem?_getD, List.getElem?_append_left (by omega)]
  all := fun j hj => by
    obtain ⟨v, hv⟩ := h.all j hj
    exact cell?_setCell_some hv
  fz := fun j => by rw [World.frozen?_setCell]; exact h.fz j
  lt := by simpa using h.lt
theorem take_succ' (l : List UInt8) (k : Nat) (h : k < l.length) : l.take (k + 1) = l.take k ++ [l.getD k 0] := by
  rw [List.take_succ_eq_append_getElem h]; simp [h]

set_option maxHeartbeats 1000000 in
set_option maxRecDepth 100000 in
theorem put_any (G n m : Nat) (v : Value) (l pre : List UInt8) (w : World) (hP : Pref w G n pre) (hl : Lies G w v l) (hm : pre.length = m) (hn : m + l.length ≤ n) (hn' : n ≤ 100000) :
    Calls Yba.prog 18 #[.slice (some ⟨G, 0, none⟩) n n, .int .i64 m, v] w fun e w' => e = .returned (.int .i64 ((m : Int) + l.length)) ∧ Pref w' G n (pre ++ l) ∧ Below G w w' := by
  obtain ⟨a, c, rfl⟩ := hl.isSlice
  have HP := hide hP
  have HL := hide hl
  clear hP hl
  subst hm
  go_enter Yba.func18, Yba.ntmps18
  go_wp2_with fail
  go_loopw [7] (fun t wr => ∃ k : Nat, k ≤ l.length ∧ t = .int .i64 k ∧ Pref wr G n (pre ++ l.take k) ∧ Below G w wr) (fun t _ => l.length - (intOf t).toNat)
  case atStart => exact ⟨0, Nat.zero_le _, rfl, by simpa using HP.out, Below.refl _ _⟩
  case round =>
    obtain ⟨k, hk, rfl, hp, hb⟩ := hrel
    have HPR := hide hp
    have HB := hide hb
    clear hp hb
    by_cases hlt : k < l.length
    · obtain ⟨x, cx, h1, h2, h3⟩ := HL.out.resolve_left (by rintro ⟨h, rfl⟩; simp at hlt)
      injection h1 with h1 _ h1'
      subst h1
      subst h1'
      have hlen : (pre ++ l.take k).length = pre.length + k := by simp; omega
      have hc := h3 k _ (C_at l k hlt)
      obtain ⟨b, off, spot⟩ := x
      have hs : spot = none := by simpa [Addr.add] using World.cell?_spot (h3 0 _ (C_at l 0 (by omega)))
      subst hs
      have hbG : b < G := by
        rcases h2 with rfl | h2
        · simp at hlt
        · exact h2
      rw [Addr.add_lit] at hc
      have hc' := (HB.out.cell (p := ⟨b, off + k, none⟩) hbG).trans hc
      obtain ⟨u, hu⟩ := HPR.out.all (pre.length + k) (by omega)
      have hf := HPR.out.fz (pre.length + k)
      have HN : Hid (Pref (wr.setCell ⟨G, pre.length + k, none⟩ (.int .u8 ((l.getD k 0).toNat : Int))) G n (pre ++ l.take (k + 1))) := by
        have := HPR.out.set (l.getD k 0) (by omega)
        rw [hlen] at this
        rw [take_succ' l k hlt, ← List.append_assoc]
        exact this
      generalize ((l.getD k 0).toNat : Int) = z at *
      clear hc h3 h2 hlen
      have hk2 : (pre.length : Int) + (k : Int) < (n : Int) := by omega
      go_wp2
      go_roundw
      case rel => exact ⟨k + 1, by omega, by go_num, HN.out, HB.out.setCell (Nat.le_refl _) _⟩
      case measure => simp [intOf]; omega
    · have hkl : k = l.length := by omega
      subst hkl
      go_wp2
      go_ret
      exact ⟨rfl, by simpa using HPR.out, HB.out⟩

set_option maxHeartbeats 1000000 in
set_option maxRecDepth 100000 in
theorem puts_any (G n m : Nat) (s : ByteArray) (pre : List UInt8) (w : World) (hP : Pref w G n pre) (hm : pre.length = m) (hn : m + s.size ≤ n) (hn' : n ≤ 100000) :
    Calls Yba.prog 19 #[.slice (some ⟨G, 0, none⟩) n n, .int .i64 m, .string s] w fun e w' => e = .returned (.int .i64 ((m : Int) + s.size)) ∧ Pref w' G n (pre ++ s.data.toList) ∧ Below G w w' := by
  have HP := hide hP
  clear hP
  subst hm
  have hsl : s.data.toList.length = s.size := by simp
  go_enter Yba.func19, Yba.ntmps19
  go_wp2_with fail
  go_loopw [7] (fun t wr => ∃ k : Nat, k ≤ s.size ∧ t = .int .i64 k ∧ Pref wr G n (pre ++ s.data.toList.take k) ∧ Below G w wr) (fun t _ => s.size - (intOf t).toNat)
  case atStart => exact ⟨0, Nat.zero_le _, rfl, by simpa using HP.out, Below.refl _ _⟩
  case round =>
    obtain ⟨k, hk, rfl, hp, hb⟩ := hrel
    have HPR := hide hp
    have HB := hide hb
    clear hp hb
    by_cases hlt : k < s.size
    · have hlen : (pre ++ s.data.toList.take k).length = pre.length + k := by simp; omega
      obtain ⟨u, hu⟩ := HPR.out.all (pre.length + k) (by omega)
      have hf := HPR.out.fz (pre.length + k)
      have HN : Hid (Pref (wr.setCell ⟨G, pre.length + k, none⟩ (.int .u8 (s[k].toNat : Int))) G n (pre ++ s.data.toList.take (k + 1))) := by
        have := HPR.out.set (s.data.toList.getD k 0) (by omega)
        rw [hlen] at this
        rw [take_succ' _ k (by omega), ← List.append_assoc]
        have e : s.data.toList.getD k 0 = s[k] := by simp [hlt]; rfl
        rw [e] at this ⊢
        exact this
      clear hlen
      have hk2 : (pre.length : Int) + (k : Int) < (n : Int) := by omega
      go_wp2
      go_roundw
      case rel => exact ⟨k + 1, by omega, by go_num, HN.out, HB.out.setCell (Nat.le_refl _) _⟩
      case measure => simp [intOf]; omega
    · have hkl : k = s.size := by omega
      subst hkl
      go_wp2
      go_ret
      exact ⟨rfl, by have := HPR.out; rwa [List.take_of_length_le (by simp)] at this, HB.out⟩

theorem put_at (G n : Nat) (z : Int) (v : Value) (l pre : List UInt8) (w : World) (hP : Pref w G n pre) (hl : Lies G w v l) (hz : z = (pre.length : Int)) (hn : pre.length + l.length ≤ n) (hn' : n ≤ 100000) :
    Calls Yba.prog 18 #[.slice (some ⟨G, 0, none⟩) n n, .int .i64 z, v] w fun e w' => e = .returned (.int .i64 (z + l.length)) ∧ Pref w' G n (pre ++ l) ∧ Below G w w' := by
  subst hz
  exact put_any G n pre.length v l pre w hP hl rfl hn hn'
theorem puts_at (G n : Nat) (z : Int) (s : ByteArray) (pre : List UInt8) (w : World) (hP : Pref w G n pre) (hz : z = (pre.length : Int)) (hn : pre.length + s.size ≤ n) (hn' : n ≤ 100000) :
    Calls Yba.prog 19 #[.slice (some ⟨G, 0, none⟩) n n, .int .i64 z, .string s] w fun e w' => e = .returned (.int .i64 (z + s.size)) ∧ Pref w' G n (pre ++ s.data.toList) ∧ Below G w w' := by
  subst hz
  exact puts_any G n pre.length s pre w hP rfl hn hn'

/-- Enough is written: what lies there. -/
theorem Pref.lies {w : World} {G n : Nat} {pre : List UInt8} (h : Pref w G n pre) (hn : pre.length = n) : Lies w.heap.size w (.slice (some ⟨G, 0, none⟩) n n) pre := by
  refine .inr ⟨⟨G, 0, none⟩, n, by rw [hn], .inr h.lt, fun j u hj => ?_⟩
  have hj' : j < pre.length := by have := (List.getElem?_eq_some_iff.1 hj).1; rwa [C_length] at this
  rw [C_at pre j hj'] at hj
  injection hj with hj
  rw [Addr.add_lit, Nat.zero_add, ← hj]
  exact h.hd j hj'

theorem Pref.quote {w : World} {G n m : Nat} {pre : List UInt8} (h : Pref w G n pre) (hm : pre.length = m) (hn : m < n) : Pref (w.setCell ⟨G, m, none⟩ (.int .u8 34)) G n (pre ++ [34]) := by
  subst hm
  exact h.set 34 hn

set_option maxHeartbeats 2000000 in
set_option maxRecDepth 100000 in
theorem expect_any (b0 b1 b2 b3 : Option Addr) (c0 c1 c2 c3 : Nat) (ds r0 r1 r2 : List UInt8) (idf : Bool) (id ts : ByteArray) (w : World)
    (h0 : Lies w.heap.size w (.slice b0 ds.length c0) ds) (h1 : Lies w.heap.size w (.slice b1 r0.length c1) r0) (h2 : Lies w.heap.size w (.slice b2 r1.length c2) r1) (h3 : Lies w.heap.size w (.slice b3 r2.length c3) r2)
    (ld : ds.length ≤ 4096) (l0 : r0.length ≤ 4096) (l1 : r1.length ≤ 4096) (l2 : r2.length ≤ 4096) (li : id.size ≤ 4096) (lt : ts.size ≤ 4096) :
    Calls Yba.prog 9 #[.slice b0 ds.length c0, .slice b1 r0.length c1, .slice b2 r1.length c2, .slice b3 r2.length c3, .bool idf, .string id, .string ts] w fun e w' => ∃ v', e = .returned v' ∧ Lies w'.heap.size w' v' (written ds r0 r1 r2 (if idf then id else ts) (if idf then ts else id)) ∧ Below w.heap.size w w' := by
  obtain ⟨i, hi, hz0, hz1, hz2⟩ := info_parts info5
  have H0 := hide h0
  have H1 := hide h1
  have H2 := hide h2
  have H3 := hide h3
  clear h0 h1 h2 h3
  cases idf with
  | true =>
    go_enter Yba.func9, Yba.ntmps9
    go_wp2_with (at_make; go_must (refine wpList_make_full _ rfl _ _ 22 rfl w.heap.size 5 i _ 1 Yba.underlying22 hi hz0 hz1 _ _ _ _ (ds.length + r0.length + id.size + r1.length + ts.size + r2.length + 4) rfl rfl (by omega) (by omega) (by rw [hz2]; omega) (by unfold maxLen; omega) (Nat.le_refl _) ?_))
    intro w1 hown hgrow
    have P0 : Hid (Pref w1 w.heap.size (ds.length + r0.length + id.size + r1.length + ts.size + r2.length + 4) []) := by
      refine ⟨fun j hj => by simp at hj, fun j hj => ?_, fun j => hown.frozenAt j, (hown.lt _ rfl).2⟩
      have hl := hown.1
      rw [hown.cellAt j (by omega)]
      exact ⟨_, List.getElem?_eq_getElem (by omega)⟩
    have B0 : Hid (Below w.heap.size w w1) := (Below.refl _ w).grown hgrow (Nat.le_refl _) (by intro k hk; cases hk)
    clear hown hgrow hi hz0 hz1 hz2
    have ea : id.data.toList.length = id.size := by simp
    have eb : ts.data.toList.length = ts.size := by simp
    have EA := hide ea
    have EB := hide eb
    clear ea eb
    generalize hNN : ds.length + r0.length + id.size + r1.length + ts.size + r2.length + 4 = N at *
    have n1 : ds.length + r0.length + id.size + r1.length + ts.size + r2.length + 4 ≤ N := by omega
    have n2 : N ≤ ds.length + r0.length + id.size + r1.length + ts.size + r2.length + 4 := by omega
    clear hNN
    go_wp2_with fail
    refine (put_at w.heap.size N _ _ ds [] w1 P0.out (H0.out.later B0.out) (by simp) (by simp; omega) (by omega)).mono ?_
    rintro e w2 ⟨rfl, p1, bb⟩
    have P1 : Hid (Pref w2 w.heap.size N ds) := hide (by simpa using p1)
    have B1 := hide (B0.out.trans bb)
    clear p1 bb P0 B0
    go_wp2_with fail
    refine (put_at w.heap.size N _ _ r0 ds w2 P1.out (H1.out.later B1.out) (by omega) (by omega) (by omega)).mono ?_
    rintro e w3 ⟨rfl, p2, bb⟩
    have P2 := hide p2
    have B2 := hide (B1.out.trans bb)
    obtain ⟨u2, hu2⟩ := p2.all (ds.length + r0.length) (by omega)
    have hf2 := p2.fz (ds.length + r0.length)
    clear p2 bb P1 B1
    go_wp2_with fail
    refine (puts_at w.heap.size N _ id (ds ++ r0 ++ [34]) _ (by exact P2.out.quote (by simp) (by omega)) (by simp <;> omega) (by simp <;> omega) (by omega)).mono ?_
    rintro e w4 ⟨rfl, p3, bb⟩
    have P3 := hide p3
    have B3 := hide ((B2.out.setCell (p := ⟨w.heap.size, ds.length + r0.length, none⟩) (Nat.le_refl _) (.int .u8 34)).trans bb)
    obtain ⟨u3, hu3⟩ := p3.all (ds.length + r0.length + 1 + id.size) (by omega)
    have hf3 := p3.fz (ds.length + r0.length + 1 + id.size)
    clear p3 bb P2 B2 hu2 hf2
    go_wp2_with fail
    refine (put_at w.heap.size N _ _ r1 (ds ++ r0 ++ [34] ++ id.data.toList ++ [34]) _ (by exact P3.out.quote (by have := EA.out; simp <;> omega) (by omega)) (by exact H2.out.later (B3.out.setCell (p := ⟨w.heap.size, _, none⟩) (Nat.le_refl _) _)) (by have := EA.out; simp <;> omega) (by have := EA.out; simp <;> omega) (by omega)).mono ?_
    rintro e w5 ⟨rfl, p4, bb⟩
    have P4 := hide p4
    have B4 := hide ((B3.out.setCell (p := ⟨w.heap.size, ds.length + r0.length + 1 + id.size, none⟩) (Nat.le_refl _) (.int .u8 34)).trans bb)
    obtain ⟨u4, hu4⟩ := p4.all (ds.length + r0.length + 1 + id.size + 1 + r1.length) (by omega)
    have hf4 := p4.fz (ds.length + r0.length + 1 + id.size + 1 + r1.length)
    clear p4 bb P3 B3 hu3 hf3
    go_wp2_with fail
    refine (puts_at w.heap.size N _ ts (ds ++ r0 ++ [34] ++ id.data.toList ++ [34] ++ r1 ++ [34]) _ (by exact P4.out.quote (by have := EA.out; simp <;> omega) (by omega)) (by have := EA.out; simp <;> omega) (by have := EA.out; simp <;> omega) (by omega)).mono ?_
    rintro e w6 ⟨rfl, p5, bb⟩
    have P5 := hide p5
    have B5 := hide ((B4.out.setCell (p := ⟨w.heap.size, ds.length + r0.length + 1 + id.size + 1 + r1.length, none⟩) (Nat.le_refl _) (.int .u8 34)).trans bb)
    obtain ⟨u5, hu5⟩ := p5.all (ds.length + r0.length + 1 + id.size + 1 + r1.length + 1 + ts.size) (by omega)
    have hf5 := p5.fz (ds.length + r0.length + 1 + id.size + 1 + r1.length + 1 + ts.size)
    clear p5 bb P4 B4 hu4 hf4
    go_wp2_with fail
    refine (put_at w.heap.size N _ _ r2 (ds ++ r0 ++ [34] ++ id.data.toList ++ [34] ++ r1 ++ [34] ++ ts.data.toList ++ [34]) _ (by exact P5.out.quote (by have := EA.out; have := EB.out; simp <;> omega) (by omega)) (by exact H3.out.later (B5.out.setCell (p := ⟨w.heap.size, _, none⟩) (Nat.le_refl _) _)) (by have := EA.out; have := EB.out; simp <;> omega) (by have := EA.out; have := EB.out; simp <;> omega) (by omega)).mono ?_
    rintro e w7 ⟨rfl, p6, bb⟩
    have P6 : Hid (Pref w7 w.heap.size N (written ds r0 r1 r2 id ts)) := p6
    have B6 := hide ((B5.out.setCell (p := ⟨w.heap.size, ds.length + r0.length + 1 + id.size + 1 + r1.length + 1 + ts.size, none⟩) (Nat.le_refl _) (.int .u8 34)).trans bb)
    clear p6 bb P5 B5 hu5 hf5
    go_wp2
    go_ret
    exact ⟨_, rfl, P6.out.lies (by have := EA.out; have := EB.out; simp [written] <;> omega), B6.out⟩
  | false =>
    go_enter Yba.func9, Yba.ntmps9
    go_wp2_with (at_make; go_must (refine wpList_make_full _ rfl _ _ 22 rfl w.heap.size 5 i _ 1 Yba.underlying22 hi hz0 hz1 _ _ _ _ (ds.length + r0.length + ts.size + r1.length + id.size + r2.length + 4) rfl rfl (by omega) (by omega) (by rw [hz2]; omega) (by unfold maxLen; omega) (Nat.le_refl _) ?_))
    intro w1 hown hgrow
    have P0 : Hid (Pref w1 w.heap.size (ds.length + r0.length + ts.size + r1.length + id.size + r2.length + 4) []) := by
      refine ⟨fun j hj => by simp at hj, fun j hj => ?_, fun j => hown.frozenAt j, (hown.lt _ rfl).2⟩
      have hl := hown.1
      rw [hown.cellAt j (by omega)]
      exact ⟨_, List.getElem?_eq_getElem (by omega)⟩
    have B0 : Hid (Below w.heap.size w w1) := (Below.refl _ w).grown hgrow (Nat.le_refl _) (by intro k hk; cases hk)
    clear hown hgrow hi hz0 hz1 hz2
    have ea : ts.data.toList.length = ts.size := by simp
    have eb : id.data.toList.length = id.size := by simp
    have EA := hide ea
    have EB := hide eb
    clear ea eb
    generalize hNN : ds.length + r0.length + ts.size + r1.length + id.size + r2.length + 4 = N at *
    have n1 : ds.length + r0.length + ts.size + r1.length + id.size + r2.length + 4 ≤ N := by omega
    have n2 : N ≤ ds.length + r0.length + ts.size + r1.length + id.size + r2.length + 4 := by omega
    clear hNN
    go_wp2_with fail
    refine (put_at w.heap.size N _ _ ds [] w1 P0.out (H0.out.later B0.out) (by simp) (by simp; omega) (by omega)).mono ?_
    rintro e w2 ⟨rfl, p1, bb⟩
    have P1 : Hid (Pref w2 w.heap.size N ds) := hide (by simpa using p1)
    have B1 := hide (B0.out.trans bb)
    clear p1 bb P0 B0
    go_wp2_with fail
    refine (put_at w.heap.size N _ _ r0 ds w2 P1.out (H1.out.later B1.out) (by omega) (by omega) (by omega)).mono ?_
    rintro e w3 ⟨rfl, p2, bb⟩
    have P2 := hide p2
    have B2 := hide (B1.out.trans bb)
    obtain ⟨u2, hu2⟩ := p2.all (ds.length + r0.length) (by omega)
    have hf2 := p2.fz (ds.length + r0.length)
    clear p2 bb P1 B1
    go_wp2_with fail
    refine (puts_at w.heap.size N _ ts (ds ++ r0 ++ [34]) _ (by exact P2.out.quote (by simp) (by omega)) (by simp <;> omega) (by simp <;> omega) (by omega)).mono ?_
    rintro e w4 ⟨rfl, p3, bb⟩
    have P3 := hide p3
    have B3 := hide ((B2.out.setCell (p := ⟨w.heap.size, ds.length + r0.length, none⟩) (Nat.le_refl _) (.int .u8 34)).trans bb)
    obtain ⟨u3, hu3⟩ := p3.all (ds.length + r0.length + 1 + ts.size) (by omega)
    have hf3 := p3.fz (ds.length + r0.length + 1 + ts.size)
    clear p3 bb P2 B2 hu2 hf2
    go_wp2_with fail
    refine (put_at w.heap.size N _ _ r1 (ds ++ r0 ++ [34] ++ ts.data.toList ++ [34]) _ (by exact P3.out.quote (by have := EA.out; simp <;> omega) (by omega)) (by exact H2.out.later (B3.out.setCell (p := ⟨w.heap.size, _, none⟩) (Nat.le_refl _) _)) (by have := EA.out; simp <;> omega) (by have := EA.out; simp <;> omega) (by omega)).mono ?_
    rintro e w5 ⟨rfl, p4, bb⟩
    have P4 := hide p4
    have B4 := hide ((B3.out.setCell (p := ⟨w.heap.size, ds.length + r0.length + 1 + ts.size, none⟩) (Nat.le_refl _) (.int .u8 34)).trans bb)
    obtain ⟨u4, hu4⟩ := p4.all (ds.length + r0.length + 1 + ts.size + 1 + r1.length) (by omega)
    have hf4 := p4.fz (ds.length + r0.length + 1 + ts.size + 1 + r1.length)
    clear p4 bb P3 B3 hu3 hf3
    go_wp2_with fail
    refine (puts_at w.heap.size N _ id (ds ++ r0 ++ [34] ++ ts.data.toList ++ [34] ++ r1 ++ [34]) _ (by exact P4.out.quote (by have := EA.out; simp <;> omega) (by omega)) (by have := EA.out; simp <;> omega) (by have := EA.out; simp <;> omega) (by omega)).mono ?_
    rintro e w6 ⟨rfl, p5, bb⟩
    have P5 := hide p5
    have B5 := hide ((B4.out.setCell (p := ⟨w.heap.size, ds.length + r0.length + 1 + ts.size + 1 + r1.length, none⟩) (Nat.le_refl _) (.int .u8 34)).trans bb)
    obtain ⟨u5, hu5⟩ := p5.all (ds.length + r0.length + 1 + ts.size + 1 + r1.length + 1 + id.size) (by omega)
    have hf5 := p5.fz (ds.length + r0.length + 1 + ts.size + 1 + r1.length + 1 + id.size)
    clear p5 bb P4 B4 hu4 hf4
    go_wp2_with fail
    refine (put_at w.heap.size N _ _ r2 (ds ++ r0 ++ [34] ++ ts.data.toList ++ [34] ++ r1 ++ [34] ++ id.data.toList ++ [34]) _ (by exact P5.out.quote (by have := EA.out; have := EB.out; simp <;> omega) (by omega)) (by exact H3.out.later (B5.out.setCell (p := ⟨w.heap.size, _, none⟩) (Nat.le_refl _) _)) (by have := EA.out; have := EB.out; simp <;> omega) (by have := EA.out; have := EB.out; simp <;> omega) (by omega)).mono ?_
    rintro e w7 ⟨rfl, p6, bb⟩
    have P6 : Hid (Pref w7 w.heap.size N (written ds r0 r1 r2 ts id)) := p6
    have B6 := hide ((B5.out.setCell (p := ⟨w.heap.size, ds.length + r0.length + 1 + ts.size + 1 + r1.length + 1 + id.size, none⟩) (Nat.le_refl _) (.int .u8 34)).trans bb)
    clear p6 bb P5 B5 hu5 hf5
    go_wp2
    go_ret
    exact ⟨_, rfl, P6.out.lies (by have := EA.out; have := EB.out; simp [written] <;> omega), B6.out⟩

set_option maxHeartbeats 2000000 in
set_option maxRecDepth 100000 in
theorem core_exact (b0 b1 b2 b3 : Option Addr) (c0 c1 c2 c3 : Nat) (ds r0 r1 r2 : List UInt8) (idf : Bool) (id ts : ByteArray) (w : World)
    (hst : St w w (.slice b0 ds.length c0) (.slice b1 r0.length c1) (.slice b2 r1.length c2) (.slice b3 r2.length c3) ds r0 r1 r2)
    (ld : ds.length ≤ 4096) (l0 : r0.length ≤ 4096) (l1 : r1.length ≤ 4096) (l2 : r2.length ≤ 4096) (li : id.size ≤ 4096) (lt : ts.size ≤ 4096) :
    Calls Yba.prog 3 #[.slice b0 ds.length c0, .slice b1 r0.length c1, .slice b2 r1.length c2, .slice b3 r2.length c3, .bool idf, .string id, .string ts] w fun e w' => e = .returned (.bool true) ∧ Below w.heap.size w w' := by
  have d0 : decide ((4096 : Int) < (ds.length : Int)) = false := by simp; omega
  have d1 : decide ((4096 : Int) < (r0.length : Int)) = false := by simp; omega
  have d2 : decide ((4096 : Int) < (r1.length : Int)) = false := by simp; omega
  have d3 : decide ((4096 : Int) < (r2.length : Int)) = false := by simp; omega
  have d4 : decide ((4096 : Int) < (id.size : Int)) = false := by simp; omega
  have d5 : decide ((4096 : Int) < (ts.size : Int)) = false := by simp; omega
  have HS := hide hst
  clear hst
  go_enter Yba.func3, Yba.ntmps3
  go_wp2_with fail
  refine (copy_any _ r0 w (by omega) HS.out.a1).mono ?_
  rintro e w1 ⟨x0, rfl, o0, bb⟩
  obtain ⟨p0, k0, rfl⟩ := (lies_of_owns o0).isSlice
  have S1 := hide (HS.out.next bb)
  have X0 := hide (lies_of_owns o0)
  clear o0 bb HS
  go_wp2_with fail
  refine (copy_any _ r1 w1 (by omega) S1.out.a2).mono ?_
  rintro e w2 ⟨x1, rfl, o1, bb⟩
  obtain ⟨p1, k1, rfl⟩ := (lies_of_owns o1).isSlice
  have S2 := hide (S1.out.next bb)
  have X0' := hide (X0.out.next bb)
  have X1 := hide (lies_of_owns o1)
  clear o1 bb S1 X0
  go_wp2_with fail
  refine (copy_any _ r2 w2 (by omega) S2.out.a3).mono ?_
  rintro e w3 ⟨x2, rfl, o2, bb⟩
  obtain ⟨p2, k2, rfl⟩ := (lies_of_owns o2).isSlice
  have S3 := hide (S2.out.next bb)
  have T4 := hide (Tpl.mk' (idf := idf) (X0'.out.next bb) (X1.out.next bb) (lies_of_owns o2))
  have S7 := hide (S3.out.next (bel_alloc w3 (.cells #[.slice p0 r0.length k0, .slice p1 r1.length k1, .slice p2 r2.length k2, .bool idf] 26)))
  clear o2 bb S2 X0' X1 S3
  go_wp2_with fail
  generalize hW : World.alloc w3 _ = W at *
  have hTlt := T4.out.lt
  have t0 := T4.out.c0
  have t1 := T4.out.c1
  have t2 := T4.out.c2
  have t3 := T4.out.c3
  clear hW
  go_region_held3 (fun w' => (w'.cell? ⟨w3.heap.size, 0, none⟩ = some (.slice p0 r0.length k0) ∧ w'.cell? ⟨w3.heap.size, 1, none⟩ = some (.slice p1 r1.length k1) ∧ w'.cell? ⟨w3.heap.size, 2, none⟩ = some (.slice p2 r2.length k2) ∧ w'.cell? ⟨w3.heap.size, 3, none⟩ = some (.bool idf)))
    (first | assumption | (simp [go_sem, *]; done))
    (first
      | (go_at_call 7; refine (copy_any _ ds _ (by omega) (by exact S7.out.a0)).mono ?_; rintro e w7 ⟨x7, rfl, o7, bb7⟩; have f7 : (w7.cell? ⟨w3.heap.size, 0, none⟩ = some (.slice p0 r0.length k0) ∧ w7.cell? ⟨w3.heap.size, 1, none⟩ = some (.slice p1 r1.length k1) ∧ w7.cell? ⟨w3.heap.size, 2, none⟩ = some (.slice p2 r2.length k2) ∧ w7.cell? ⟨w3.heap.size, 3, none⟩ = some (.bool idf)) := ⟨(bb7.cell (p := ⟨w3.heap.size, 0, none⟩) hTlt).trans t0, (bb7.cell (p := ⟨w3.heap.size, 1, none⟩) hTlt).trans t1, (bb7.cell (p := ⟨w3.heap.size, 2, none⟩) hTlt).trans t2, (bb7.cell (p := ⟨w3.heap.size, 3, none⟩) hTlt).trans t3⟩)
      | (go_at_call 8; refine (append_any W.heap.size _ _ _ _ ds r0 r1 r2 idf id ts _ (by exact o7) (by exact T4.out.l0.later (bel_undrew bb7)) (by exact T4.out.l1.later (bel_undrew bb7)) (by exact T4.out.l2.later (bel_undrew bb7)) (by exact bb7.size) (by omega) (by omega) (by omega) (by omega) li lt).mono ?_; rintro e w8 ⟨x8, rfl, o8, bb8⟩; have f8 : (w8.cell? ⟨w3.heap.size, 0, none⟩ = some (.slice p0 r0.length k0) ∧ w8.cell? ⟨w3.heap.size, 1, none⟩ = some (.slice p1 r1.length k1) ∧ w8.cell? ⟨w3.heap.size, 2, none⟩ = some (.slice p2 r2.length k2) ∧ w8.cell? ⟨w3.heap.size, 3, none⟩ = some (.bool idf)) := ⟨(bb8.cell (p := ⟨w3.heap.size, 0, none⟩) hTlt).trans f7.1, (bb8.cell (p := ⟨w3.heap.size, 1, none⟩) hTlt).trans f7.2.1, (bb8.cell (p := ⟨w3.heap.size, 2, none⟩) hTlt).trans f7.2.2.1, (bb8.cell (p := ⟨w3.heap.size, 3, none⟩) hTlt).trans f7.2.2.2⟩))
  have b8 : Below W.heap.size W w8 := (bel_undrew bb7).trans bb8
  have S8 := hide (S7.out.next b8)
  have O8 := hide (lies_of_owns o8)
  clear o7 bb7 f7 o8 bb8 f8 b8 S7 T4 t0 t1 t2 t3 hTlt
  go_wp2_with fail
  refine (expect_any b0 b1 b2 b3 c0 c1 c2 c3 ds r0 r1 r2 idf id ts w8 S8.out.a0 S8.out.a1 S8.out.a2 S8.out.a3 ld l0 l1 l2 li lt).mono ?_
  rintro e w9 ⟨x9, rfl, h9, b9⟩
  have S9 := hide (S8.out.next b9)
  have L9 := hide (O8.out.next b9)
  have M9 := hide h9
  clear S8 O8 h9 b9
  go_wp2_with (go_at_call 10; refine (equal_same _ _ _ _ _ _ (by exact L9.out) (by exact M9.out)).mono ?_; rintro e wB ⟨rfl, rfl⟩)
  go_ret
  exact ⟨rfl, S9.out.bel⟩
end Go.Proofs.Ybulkbaew
