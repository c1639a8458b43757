import Derived.Test.YbulkbabqFmtModel
namespace Go.Proofs.YbulkbabqFmt
open Go.RowKit

theorem check_nil (L : Nat) (w : World) : Calls Ybaf.prog 9 #[.pointer (some ⟨L, 0, none⟩), .slice none 0 0] w fun e w' => e = .returned .nilIface ∧ w' = w := by
  go_enter Ybaf.func9, Ybaf.ntmps9
  go_wp2_with fail
  go_loop [10] (fun t => t = .int .i64 0) (fun _ => 0)
  case atStart => rfl
  case round =>
    subst hrel
    go_wp2
    go_ret
    exact ⟨rfl, rfl⟩

set_option maxHeartbeats 1000000 in
set_option maxRecDepth 100000 in
theorem core_zero (a0 a1 : Option Addr) (c0 m c1 : Nat) (w : World) (hm : m ≤ 1024) :
    Calls Ybaf.prog 3 #[.slice a0 0 c0, .slice a1 m c1] w fun e w' => e = .returned (.bool true) ∧ Below w.heap.size w w' := by
  have d1 : decide ((1024 : Int) < (m : Int)) = false := by simp; omega
  go_enter Ybaf.func3, Ybaf.ntmps3
  go_wp2_with fail
  refine (build a0 0 c0 [] w (by omega) (fun j hj => by omega)).mono ?_
  rintro e w1 ⟨L, G, rfl, _, _, _, hb⟩
  have HB := hide hb
  clear hb
  go_wp2_with fail
  refine (clock_zero a1 m c1 w1).mono ?_
  rintro e w2 ⟨rfl, rfl⟩
  go_wp2_with fail
  go_loop [28, 7] (fun t v => t = .int .i64 0 ∧ v = .bool true) (fun _ _ => 0)
  case atStart => exact ⟨rfl, rfl⟩
  case round =>
    obtain ⟨rfl, rfl⟩ := hrel
    go_wp2_with (go_at_call 9; refine (check_nil _ _).mono ?_; rintro e w3 ⟨rfl, rfl⟩)
    go_ret
    exact ⟨rfl, HB.out⟩

set_option maxHeartbeats 2000000 in
set_option maxRecDepth 100000 in
theorem core (a0 a1 : Option Addr) (n c0 m c1 : Nat) (ss : List Int) (H C : Nat → Int) (w : World) (hn0 : 0 < n) (hn : n ≤ 256) (hm : m ≤ 1024) (hC : ∀ j, 0 ≤ C j ∧ C j ≤ 18446744073709551615)
    (hc0 : ∀ j, j < n → ∃ b off, a0 = some ⟨b, off, none⟩ ∧ b < w.heap.size ∧ w.cell? ⟨b, off + j, none⟩ = some (.int .u8 (ss.getD j 0)) ∧ 0 ≤ ss.getD j 0 ∧ ss.getD j 0 ≤ 255)
    (hc1 : ∀ j, j < m → ∃ b off, a1 = some ⟨b, off, none⟩ ∧ b < w.heap.size ∧ w.cell? ⟨b, off + j * 2, none⟩ = some (.int .u8 (H j)) ∧ w.cell? ⟨b, off + j * 2 + 1, none⟩ = some (.int .u64 (C j)) ∧ 0 ≤ H j ∧ H j ≤ 255) :
    Calls Ybaf.prog 3 #[.slice a0 n c0, .slice a1 m c1] w fun e w' => e = .returned (.bool true) ∧ Below w.heap.size w w' := by
  have d0 : decide ((256 : Int) < (n : Int)) = false := by simp; omega
  have d1 : decide ((1024 : Int) < (m : Int)) = false := by simp; omega
  have H0 := hide hc0
  have H1 := hide hc1
  have HCC := hide hC
  clear hc0 hc1 hC
  go_enter Ybaf.func3, Ybaf.ntmps3
  go_wp2_with fail
  refine (build a0 n c0 ss w hn H0.out).mono ?_
  rintro e w1 ⟨L, G, rfl, hL, hG, hlog, hb⟩
  have HL1 := hide hlog
  have HB1 := hide hb
  have s1 := hb.size
  have hL1 : L < w1.heap.size := cell_lt hlog.l0
  have hG1 : G < w1.heap.size := cell_lt (hlog.nm 0 hn0)
  clear hlog hb
  go_wp2_with fail
  refine (clock a1 n m c1 H C w1 hn0 hn hm (fun j hj => ?_)).mono ?_
  · obtain ⟨b, off, ha, hb, h1, h2, h3⟩ := H1.out j hj
    exact ⟨b, off, ha, by omega, (HB1.out.cell (p := ⟨b, off + j * 2, none⟩) hb).trans h1, (HB1.out.cell (p := ⟨b, off + j * 2 + 1, none⟩) hb).trans h2, h3⟩
  rintro e w2 ⟨g, rfl, hg, hck, hb2⟩
  have HL2 := hide (HL1.out.later hb2 hL1 hG1)
  have HC2 := hide hck
  have s2 := hb2.size
  have HB2 : Hid (Below w.heap.size w w2) := HB1.out.trans (hb2.mono (by omega))
  clear hb2 HL1 HB1 H0 H1 hck
  go_wp2_with fail
  go_loopw [28, 7] (fun t v wr => ∃ k : Nat, k ≤ m ∧ t = .int .i64 k ∧ v = .bool (okTo (fun j => (ss.getD j 0 % 5).toNat) n H C k) ∧ Below w2.heap.size w2 wr) (fun t _ _ => m - (intOf t).toNat)
  case atStart => exact ⟨0, Nat.zero_le _, rfl, rfl, Below.refl _ _⟩
  case round =>
    obtain ⟨k, hk, rfl, rfl, hbel⟩ := hrel
    have HB := hide hbel
    have hsz := hbel.size
    clear hbel
    have hL2 : L < w2.heap.size := by omega
    have hG2 : G < w2.heap.size := by omega
    by_cases hlt : k < m
    · have hl := HL2.out.later HB.out hL2 hG2
      obtain ⟨g', hg', c0, c1⟩ := HC2.out.ent k hlt
      cases hg'
      have hgw : g < w2.heap.size := cell_lt c0
      have c0' := (HB.out.cell (p := ⟨g, k * 2, none⟩) hgw).trans c0
      have c1' := (HB.out.cell (p := ⟨g, k * 2 + 1, none⟩) hgw).trans c1
      have hr0 : 0 ≤ H k % (n : Int) := Int.emod_nonneg _ (by omega)
      have hr1 : H k % (n : Int) < n := Int.emod_lt_of_pos _ (by omega)
      have l0 := hl.l0
      obtain ⟨ea, lev⟩ := hl.ev (H k % (n : Int)).toNat (by omega)
      have hk5 : (ss.getD (H k % (n : Int)).toNat 0 % 5).toNat < 5 := by omega
      obtain ⟨hcc0, hcc1⟩ := HCC.out k
      have HE : Hid (okTo (fun j => (ss.getD j 0 % 5).toNat) n H C (k + 1) = (okTo (fun j => (ss.getD j 0 % 5).toNat) n H C k && (!(((ss.getD (H k % (n : Int)).toNat 0 % 5).toNat : Int) == 0) && !decide (((ss.getD (H k % (n : Int)).toNat 0 % 5).toNat : Int) < C k)))) := rfl
      generalize (ss.getD (H k % (n : Int)).toNat 0 % 5).toNat = kk at *
      generalize H k % (n : Int) = hh at *
      generalize C k = cc at *
      generalize okTo (fun j => (ss.getD j 0 % 5).toNat) n H C k = bb at *
      clear hl c0 c1
      have hkm : (k : Int) < (m : Int) := by omega
      have hL' : L < wr.heap.size := by omega
      have hG' : G < wr.heap.size := by omega
      by_cases hk0 : kk = 0
      · subst hk0
        have HE1 : Hid (okTo (fun j => (ss.getD j 0 % 5).toNat) n H C (k + 1) = false) := by rw [Hid, HE.out]; simp
        clear HE
        go_wp2
        go_quiet (fail)
        go_wp2
        go_roundw
        case rel =>
          refine ⟨k + 1, by omega, by go_num, by rw [HE1.out], ?_⟩
          repeat (first | exact HB.out | exact HB.out.alloc hsz _ | apply Below.drew | apply below_drewN)
        case measure => simp [intOf]; omega
      · have e0 : ((kk : Int) == 0) = false := by simp; omega
        by_cases hck : (kk : Int) < cc
        · have HE1 : Hid (okTo (fun j => (ss.getD j 0 % 5).toNat) n H C (k + 1) = false) := by rw [Hid, HE.out]; simp [hck]
          clear HE
          go_wp2
          go_quiet (fail)
          go_wp2
          go_roundw
          case rel =>
            refine ⟨k + 1, by omega, by go_num, by rw [HE1.out], ?_⟩
            repeat (first | exact HB.out | exact HB.out.alloc hsz _ | apply Below.drew | apply below_drewN)
          case measure => simp [intOf]; omega
        · have HE1 : Hid (okTo (fun j => (ss.getD j 0 % 5).toNat) n H C (k + 1) = bb) := by rw [Hid, HE.out]; simp [hck, hk0]
          have d2 : decide ((kk : Int) < cc) = false := by simpa using hck
          clear HE
          go_wp2
          go_quiet (fail)
          go_wp2
          go_roundw
          case rel =>
            refine ⟨k + 1, by omega, by go_num, by rw [HE1.out], ?_⟩
            repeat (first | exact HB.out | exact HB.out.alloc hsz _ | apply Below.drew | apply below_drewN)
          case measure => simp [intOf]; omega
    · have hkm : k = m := by omega
      subst hkm
      have hLr : L < wr.heap.size := by omega
      have hGr : G < wr.heap.size := by omega
      have hgr : g < wr.heap.size := by omega
      have HL3 := hide (HL2.out.later HB.out hL2 hG2)
      have HC3 : Hid (ClockAt wr (some ⟨g, 0, none⟩) k n H C) := ⟨fun j hj => by
        obtain ⟨g', hg', c0, c1⟩ := HC2.out.ent j hj
        cases hg'
        exact ⟨g, rfl, (HB.out.cell (p := ⟨g, j * 2, none⟩) hg).trans c0, (HB.out.cell (p := ⟨g, j * 2 + 1, none⟩) hg).trans c1⟩⟩
      go_wp2_with fail
      refine (check L G n k k g _ H C _ hn0 hn hm (fun j => by show (ss.getD j 0 % 5).toNat < 5; omega) HCC.out HL3.out HC3.out hLr hGr hgr).mono ?_
      rintro e w4 ⟨ho, hb4⟩
      have HB4 : Hid (Below w.heap.size w w4) := (HB2.out.trans (HB.out.mono (by omega))).trans (hb4.mono (by omega))
      clear hb4
      rcases ho with ⟨hok, rfl⟩ | ⟨hok, ad, rfl⟩
      · rw [hok]
        clear hok
        go_wp2
        go_ret
        exact ⟨rfl, HB4.out⟩
      · rw [hok]
        clear hok
        go_wp2
        go_ret
        exact ⟨rfl, HB4.out⟩
end Go.Proofs.YbulkbabqFmt
