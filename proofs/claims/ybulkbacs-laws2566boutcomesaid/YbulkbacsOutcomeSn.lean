import Derived.Test.YbulkbacsOutcome
namespace Go.Proofs.Ybulkbacs.lawS2566BOutcome
open Go.ChangeShapes Go.WideShapes Go.ChangeAt Go.RowKit
set_option linter.unusedVariables false

set_option maxHeartbeats 2000000 in
set_option maxRecDepth 100000 in
theorem law_sn_u (a0 a1 : Int) (app ans rd : Bool) (need clock self : Int) (a9 : Option Addr) (n9 c9 : Nat) (a10 : Option Addr) (n10 c10 : Nat) (hs vs : List Int) (w : World) (hn9 : n9 ≤ 1024) (hn10 : n10 ≤ 1024) (hs0 : 0 ≤ self) (hs1 : self ≤ 255)
    (hl9 : hs.length = n9) (hl10 : vs.length = n10) (hc9 : Came w a9 n9 hs) (hc10 : Came w a10 n10 vs)
    (hk : ∀ w, Calls Yba.prog 7 #[.int .u8 a0] w fun e w' => e = .returned (.string { data := #[117, 112, 100, 97, 116, 101] }) ∧ w' = w) :
    Calls Yba.prog 3 #[.int .u8 a0, .int .i64 a1, .bool app, .bool ans, .bool rd, .int .i64 need, .int .i64 clock, .bool true, .int .u8 self, .slice a9 n9 c9, .slice a10 n10 c10] w fun e w' => e = .returned (.bool true) ∧ Below w.heap.size w w' := by
  have d9 : decide ((1024 : Int) < (n9 : Int)) = false := by simp; omega
  have d10 : decide ((1024 : Int) < (n10 : Int)) = false := by simp; omega
  have HK := hide hk
  have H9 := hide hc9
  have H10 := hide hc10
  clear hk hc9 hc10
  go_enter Yba.func3, Yba.ntmps3
  go_wp2_with (go_at_call 7; refine (HK.out _).mono ?_; rintro e w1 ⟨rfl, rfl⟩)
  have hb0 : ∀ x y : Obj, Below w1.heap.size w1 ((w1.alloc x).alloc y) := fun x y => ((Below.refl w1.heap.size w1).alloc (Nat.le_refl _) _).alloc (by simp) _
  refine (clone64 a9 n9 c9 hs _ hl9 hn9 (H9.out.later (hb0 _ _))).mono ?_
  rintro e w2 ⟨ah, ch, rfl, hh, hbh, b2⟩
  have s2 := b2.size
  simp only [World.size_alloc] at s2 hbh b2
  have HH := hide (And.intro hh (And.intro hbh b2))
  clear hh hbh b2 hb0
  go_wp2_with fail
  have hb2 : Below w1.heap.size w1 w2 := (((Below.refl w1.heap.size w1).alloc (Nat.le_refl _) _).alloc (by simp) _).trans (HH.out.2.2.mono (by omega))
  refine (clone64 a10 n10 c10 vs _ hl10 hn10 (H10.out.later hb2)).mono ?_
  rintro e w3 ⟨aa, ca, rfl, ha, hba, b3⟩
  have s3 := b3.size
  have HA := hide (And.intro ha (And.intro hba b3))
  have t14 : w3.cell? ⟨w1.heap.size + 1, 14, none⟩ = some (.pointer none) :=
    (b3.cell (p := ⟨w1.heap.size + 1, 14, none⟩) (by simp; omega)).trans ((HH.out.2.2.cell (p := ⟨w1.heap.size + 1, 14, none⟩) (by simp)).trans (cell_at (by simp) rfl))
  have f14 : w3.frozen? ⟨w1.heap.size + 1, 14, none⟩ = false :=
    (b3.frozen (p := ⟨w1.heap.size + 1, 14, none⟩) (by simp; omega)).trans ((HH.out.2.2.frozen (p := ⟨w1.heap.size + 1, 14, none⟩) (by simp)).trans (frozen_at (by simp)))
  have hR3 : w1.heap.size + 1 < w3.heap.size := by omega
  clear ha hba b3 hb2
  go_wp2_with fail
  generalize hW : World.alloc _ (Obj.cells #[Value.string _, _, _, _, _] 57) = W
  have HL : Hid (Laid w1 W app ans rd { data := #[117, 112, 100, 97, 116, 101] } a1 need clock (self % 16) hs vs n9 n10 (w1.heap.size + 1) w3.heap.size (w3.heap.size + 1) ah aa ch ca) := by
    subst hW
    exact laid_of rfl rfl rfl rfl rfl rfl HH.out.1 HH.out.2.1 HH.out.2.2 HA.out.1 HA.out.2.1 HA.out.2.2
  have hMS : some (w3.heap.size + 1) ≠ some w1.heap.size := by simp; omega
  have HC := hide (hold_plain (w1.heap.size + 1) w1.heap.size (w3.heap.size + 1) _ (.inl rfl) app a1 _ need _ HL.out.r9 HL.out.msg hMS (takeable_u w1.heap.size (w3.heap.size + 1) app ans rd a1 _ need _ HL.out.site HL.out.msg hMS))
  clear hW HK HH HA t14 f14
  refine HC.out.mono ?_
  rintro e w4 ⟨rfl, hg⟩
  have hB : Below w1.heap.size w1 w4 := HL.out.bel.grown hg HL.out.bel.size (by intro k hk; cases hk; exact Nat.le_refl _)
  have C9 := hide (H9.out.later hB).has
  have C10 := hide (H10.out.later hB).has
  have HB := hide hB
  clear hg hB HC HL H9 H10 hMS
  go_wp2_with fail
  go_loop [31, 30] (fun i t => ∃ k : Nat, k ≤ n9 ∧ i = .int .i64 k ∧ t = .int .i64 (ph (self % 16) hs clock k)) (fun i _ => n9 - (intOf i).toNat)
  case atStart => exact ⟨0, Nat.zero_le _, rfl, rfl⟩
  case round =>
    obtain ⟨k, hk, rfl, rfl⟩ := hrel
    by_cases hlt : k < n9
    · obtain ⟨b, off, rfl, hc⟩ := C9.out k hlt
      have HP : Hid (ph (self % 16) hs clock (k + 1) = if (k : Int) = self % 16 then ph (self % 16) hs clock k else if hs.getD k 0 < ph (self % 16) hs clock k then hs.getD k 0 else ph (self % 16) hs clock k) := rfl
      generalize hs.getD k 0 = z at *
      generalize ph (self % 16) hs clock k = t at *
      by_cases hks : (k : Int) = self % 16
      · have e1 : ((k : Int) != self % 16) = false := by simp [hks]
        have e2 := HP.out
        rw [if_pos hks] at e2
        have HE := hide e2
        clear e2 hks HP
        go_wp2
        go_round
        case rel => exact ⟨k + 1, by omega, by go_num, by rw [HE.out]⟩
        case measure => simp [intOf]; omega
      · have e1 : ((k : Int) != self % 16) = true := by simp [hks]
        have e2 := HP.out
        rw [if_neg hks] at e2
        clear hks HP
        by_cases hzt : z < t
        · rw [if_pos hzt] at e2
          have HE := hide e2
          clear e2
          go_wp2
          go_round
          case rel => exact ⟨k + 1, by omega, by go_num, by rw [HE.out]⟩
          case measure => simp [intOf]; omega
        · rw [if_neg hzt] at e2
          have HE := hide e2
          have d1 : decide (z < t) = false := by simpa using hzt
          clear e2
          go_wp2
          go_round
          case rel => exact ⟨k + 1, by omega, by go_num, by rw [HE.out]⟩
          case measure => simp [intOf]; omega
    · have hkn : k = n9 := by omega
      subst hkn
      clear C9
      go_wp2_with fail
      go_loop [32, 30] (fun i t => ∃ j : Nat, j ≤ n10 ∧ i = .int .i64 j ∧ t = .int .i64 (pa vs (ph (self % 16) hs clock k) j)) (fun i _ => n10 - (intOf i).toNat)
      case atStart => exact ⟨0, Nat.zero_le _, rfl, rfl⟩
      case round =>
        obtain ⟨j, hj, rfl, rfl⟩ := hrel
        by_cases hlt : j < n10
        · obtain ⟨b, off, rfl, hc⟩ := C10.out j hlt
          have e2 : pa vs (ph (self % 16) hs clock k) (j + 1) = if wrap64 (vs.getD j 0 - 1) < pa vs (ph (self % 16) hs clock k) j then wrap64 (vs.getD j 0 - 1) else pa vs (ph (self % 16) hs clock k) j := rfl
          by_cases hzt : wrap64 (vs.getD j 0 - 1) < pa vs (ph (self % 16) hs clock k) j
          · rw [if_pos hzt] at e2
            have HE := hide e2
            clear e2
            generalize vs.getD j 0 = z at *
            generalize pa vs (ph (self % 16) hs clock k) j = t at *
            go_wp2
            go_round
            case rel => exact ⟨j + 1, by omega, by go_num, by rw [HE.out]⟩
            case measure => simp [intOf]; omega
          · rw [if_neg hzt] at e2
            have HE := hide e2
            clear e2
            generalize vs.getD j 0 = z at *
            generalize pa vs (ph (self % 16) hs clock k) j = t at *
            have d1 : decide (wrap64 (z - 1) < t) = false := by simpa using hzt
            go_wp2
            go_round
            case rel => exact ⟨j + 1, by omega, by go_num, by rw [HE.out]⟩
            case measure => simp [intOf]; omega
        · have hjn : j = n10 := by omega
          subst hjn
          clear C10
          cases app with
          | false =>
            have e1 : outc false false 0 need = 1 := by simp [outc]
            rw [e1]
            go_wp2
            go_ret
            exact ⟨rfl, HB.out⟩
          | true =>
            have e1 : outc true false 0 need = 0 := by simp [outc]
            rw [e1]
            go_wp2
            go_ret
            exact ⟨rfl, HB.out⟩

set_option maxHeartbeats 2000000 in
set_option maxRecDepth 100000 in
theorem law_sn_q (a0 a1 : Int) (app ans rd : Bool) (need clock self : Int) (a9 : Option Addr) (n9 c9 : Nat) (a10 : Option Addr) (n10 c10 : Nat) (hs vs : List Int) (w : World) (hn9 : n9 ≤ 1024) (hn10 : n10 ≤ 1024) (hs0 : 0 ≤ self) (hs1 : self ≤ 255)
    (hl9 : hs.length = n9) (hl10 : vs.length = n10) (hc9 : Came w a9 n9 hs) (hc10 : Came w a10 n10 vs)
    (hk : ∀ w, Calls Yba.prog 7 #[.int .u8 a0] w fun e w' => e = .returned (.string { data := #[102, 101, 116, 99, 104, 45, 114, 101, 113, 117, 101, 115, 116] }) ∧ w' = w) :
    Calls Yba.prog 3 #[.int .u8 a0, .int .i64 a1, .bool app, .bool ans, .bool rd, .int .i64 need, .int .i64 clock, .bool true, .int .u8 self, .slice a9 n9 c9, .slice a10 n10 c10] w fun e w' => e = .returned (.bool true) ∧ Below w.heap.size w w' := by
  have d9 : decide ((1024 : Int) < (n9 : Int)) = false := by simp; omega
  have d10 : decide ((1024 : Int) < (n10 : Int)) = false := by simp; omega
  have HK := hide hk
  have H9 := hide hc9
  have H10 := hide hc10
  clear hk hc9 hc10
  go_enter Yba.func3, Yba.ntmps3
  go_wp2_with (go_at_call 7; refine (HK.out _).mono ?_; rintro e w1 ⟨rfl, rfl⟩)
  have hb0 : ∀ x y : Obj, Below w1.heap.size w1 ((w1.alloc x).alloc y) := fun x y => ((Below.refl w1.heap.size w1).alloc (Nat.le_refl _) _).alloc (by simp) _
  refine (clone64 a9 n9 c9 hs _ hl9 hn9 (H9.out.later (hb0 _ _))).mono ?_
  rintro e w2 ⟨ah, ch, rfl, hh, hbh, b2⟩
  have s2 := b2.size
  simp only [World.size_alloc] at s2 hbh b2
  have HH := hide (And.intro hh (And.intro hbh b2))
  clear hh hbh b2 hb0
  go_wp2_with fail
  have hb2 : Below w1.heap.size w1 w2 := (((Below.refl w1.heap.size w1).alloc (Nat.le_refl _) _).alloc (by simp) _).trans (HH.out.2.2.mono (by omega))
  refine (clone64 a10 n10 c10 vs _ hl10 hn10 (H10.out.later hb2)).mono ?_
  rintro e w3 ⟨aa, ca, rfl, ha, hba, b3⟩
  have s3 := b3.size
  have HA := hide (And.intro ha (And.intro hba b3))
  have t14 : w3.cell? ⟨w1.heap.size + 1, 14, none⟩ = some (.pointer none) :=
    (b3.cell (p := ⟨w1.heap.size + 1, 14, none⟩) (by simp; omega)).trans ((HH.out.2.2.cell (p := ⟨w1.heap.size + 1, 14, none⟩) (by simp)).trans (cell_at (by simp) rfl))
  have f14 : w3.frozen? ⟨w1.heap.size + 1, 14, none⟩ = false :=
    (b3.frozen (p := ⟨w1.heap.size + 1, 14, none⟩) (by simp; omega)).trans ((HH.out.2.2.frozen (p := ⟨w1.heap.size + 1, 14, none⟩) (by simp)).trans (frozen_at (by simp)))
  have hR3 : w1.heap.size + 1 < w3.heap.size := by omega
  clear ha hba b3 hb2
  go_wp2_with fail
  generalize hW : World.alloc _ (Obj.cells #[Value.string _, _, _, _, _] 57) = W
  have HL : Hid (Laid w1 W app ans rd { data := #[102, 101, 116, 99, 104, 45, 114, 101, 113, 117, 101, 115, 116] } a1 need clock (self % 16) hs vs n9 n10 (w1.heap.size + 1) w3.heap.size (w3.heap.size + 1) ah aa ch ca) := by
    subst hW
    exact laid_of rfl rfl rfl rfl rfl rfl HH.out.1 HH.out.2.1 HH.out.2.2 HA.out.1 HA.out.2.1 HA.out.2.2
  have hMS : some (w3.heap.size + 1) ≠ some w1.heap.size := by simp; omega
  have HC := hide (hold_q (w1.heap.size + 1) w1.heap.size (w3.heap.size + 1) ans a1 _ need (pa vs (ph (self % 16) hs clock n9) n10) _ HL.out.r9 HL.out.msg hMS (takeable_q w1.heap.size (w3.heap.size + 1) app ans rd a1 _ need _ HL.out.site HL.out.msg hMS) (HL.out.point hn9 hn10))
  clear hW HK HH HA t14 f14
  refine HC.out.mono ?_
  rintro e w4 ⟨rfl, hg⟩
  have hB : Below w1.heap.size w1 w4 := HL.out.bel.grown hg HL.out.bel.size (by intro k hk; cases hk; exact Nat.le_refl _)
  have C9 := hide (H9.out.later hB).has
  have C10 := hide (H10.out.later hB).has
  have HB := hide hB
  clear hg hB HC HL H9 H10 hMS
  go_wp2_with fail
  go_loop [31, 30] (fun i t => ∃ k : Nat, k ≤ n9 ∧ i = .int .i64 k ∧ t = .int .i64 (ph (self % 16) hs clock k)) (fun i _ => n9 - (intOf i).toNat)
  case atStart => exact ⟨0, Nat.zero_le _, rfl, rfl⟩
  case round =>
    obtain ⟨k, hk, rfl, rfl⟩ := hrel
    by_cases hlt : k < n9
    · obtain ⟨b, off, rfl, hc⟩ := C9.out k hlt
      have HP : Hid (ph (self % 16) hs clock (k + 1) = if (k : Int) = self % 16 then ph (self % 16) hs clock k else if hs.getD k 0 < ph (self % 16) hs clock k then hs.getD k 0 else ph (self % 16) hs clock k) := rfl
      generalize hs.getD k 0 = z at *
      generalize ph (self % 16) hs clock k = t at *
      by_cases hks : (k : Int) = self % 16
      · have e1 : ((k : Int) != self % 16) = false := by simp [hks]
        have e2 := HP.out
        rw [if_pos hks] at e2
        have HE := hide e2
        clear e2 hks HP
        go_wp2
        go_round
        case rel => exact ⟨k + 1, by omega, by go_num, by rw [HE.out]⟩
        case measure => simp [intOf]; omega
      · have e1 : ((k : Int) != self % 16) = true := by simp [hks]
        have e2 := HP.out
        rw [if_neg hks] at e2
        clear hks HP
        by_cases hzt : z < t
        · rw [if_pos hzt] at e2
          have HE := hide e2
          clear e2
          go_wp2
          go_round
          case rel => exact ⟨k + 1, by omega, by go_num, by rw [HE.out]⟩
          case measure => simp [intOf]; omega
        · rw [if_neg hzt] at e2
          have HE := hide e2
          have d1 : decide (z < t) = false := by simpa using hzt
          clear e2
          go_wp2
          go_round
          case rel => exact ⟨k + 1, by omega, by go_num, by rw [HE.out]⟩
          case measure => simp [intOf]; omega
    · have hkn : k = n9 := by omega
      subst hkn
      clear C9
      go_wp2_with fail
      go_loop [32, 30] (fun i t => ∃ j : Nat, j ≤ n10 ∧ i = .int .i64 j ∧ t = .int .i64 (pa vs (ph (self % 16) hs clock k) j)) (fun i _ => n10 - (intOf i).toNat)
      case atStart => exact ⟨0, Nat.zero_le _, rfl, rfl⟩
      case round =>
        obtain ⟨j, hj, rfl, rfl⟩ := hrel
        by_cases hlt : j < n10
        · obtain ⟨b, off, rfl, hc⟩ := C10.out j hlt
          have e2 : pa vs (ph (self % 16) hs clock k) (j + 1) = if wrap64 (vs.getD j 0 - 1) < pa vs (ph (self % 16) hs clock k) j then wrap64 (vs.getD j 0 - 1) else pa vs (ph (self % 16) hs clock k) j := rfl
          by_cases hzt : wrap64 (vs.getD j 0 - 1) < pa vs (ph (self % 16) hs clock k) j
          · rw [if_pos hzt] at e2
            have HE := hide e2
            clear e2
            generalize vs.getD j 0 = z at *
            generalize pa vs (ph (self % 16) hs clock k) j = t at *
            go_wp2
            go_round
            case rel => exact ⟨j + 1, by omega, by go_num, by rw [HE.out]⟩
            case measure => simp [intOf]; omega
          · rw [if_neg hzt] at e2
            have HE := hide e2
            clear e2
            generalize vs.getD j 0 = z at *
            generalize pa vs (ph (self % 16) hs clock k) j = t at *
            have d1 : decide (wrap64 (z - 1) < t) = false := by simpa using hzt
            go_wp2
            go_round
            case rel => exact ⟨j + 1, by omega, by go_num, by rw [HE.out]⟩
            case measure => simp [intOf]; omega
        · have hjn : j = n10 := by omega
          subst hjn
          clear C10
          generalize hpp : pa vs (ph (self % 16) hs clock k) j = pp at *
          have HPP := hide hpp
          clear hpp
          cases ans with
          | false =>
            have e1 : outc false true pp need = 1 := by simp [outc]
            rw [e1]
            go_wp2
            go_ret
            exact ⟨rfl, HB.out⟩
          | true =>
            by_cases hpn : pp < need
            · have e1 : outc true true pp need = 2 := by simp [outc, hpn]
              rw [e1]
              go_wp2
              go_ret
              exact ⟨rfl, HB.out⟩
            · have e1 : outc true true pp need = 0 := by simp [outc, hpn]
              have d1 : decide (pp < need) = false := by simpa using hpn
              rw [e1]
              go_wp2
              go_ret
              exact ⟨rfl, HB.out⟩

set_option maxHeartbeats 2000000 in
set_option maxRecDepth 100000 in
theorem law_sn_a (a0 a1 : Int) (app ans rd : Bool) (need clock self : Int) (a9 : Option Addr) (n9 c9 : Nat) (a10 : Option Addr) (n10 c10 : Nat) (hs vs : List Int) (w : World) (hn9 : n9 ≤ 1024) (hn10 : n10 ≤ 1024) (hs0 : 0 ≤ self) (hs1 : self ≤ 255)
    (hl9 : hs.length = n9) (hl10 : vs.length = n10) (hc9 : Came w a9 n9 hs) (hc10 : Came w a10 n10 vs)
    (hk : ∀ w, Calls Yba.prog 7 #[.int .u8 a0] w fun e w' => e = .returned (.string { data := #[102, 101, 116, 99, 104, 45, 97, 110, 115, 119, 101, 114] }) ∧ w' = w) :
    Calls Yba.prog 3 #[.int .u8 a0, .int .i64 a1, .bool app, .bool ans, .bool rd, .int .i64 need, .int .i64 clock, .bool true, .int .u8 self, .slice a9 n9 c9, .slice a10 n10 c10] w fun e w' => e = .returned (.bool true) ∧ Below w.heap.size w w' := by
  have d9 : decide ((1024 : Int) < (n9 : Int)) = false := by simp; omega
  have d10 : decide ((1024 : Int) < (n10 : Int)) = false := by simp; omega
  have HK := hide hk
  have H9 := hide hc9
  have H10 := hide hc10
  clear hk hc9 hc10
  go_enter Yba.func3, Yba.ntmps3
  go_wp2_with (go_at_call 7; refine (HK.out _).mono ?_; rintro e w1 ⟨rfl, rfl⟩)
  have hb0 : ∀ x y : Obj, Below w1.heap.size w1 ((w1.alloc x).alloc y) := fun x y => ((Below.refl w1.heap.size w1).alloc (Nat.le_refl _) _).alloc (by simp) _
  refine (clone64 a9 n9 c9 hs _ hl9 hn9 (H9.out.later (hb0 _ _))).mono ?_
  rintro e w2 ⟨ah, ch, rfl, hh, hbh, b2⟩
  have s2 := b2.size
  simp only [World.size_alloc] at s2 hbh b2
  have HH := hide (And.intro hh (And.intro hbh b2))
  clear hh hbh b2 hb0
  go_wp2_with fail
  have hb2 : Below w1.heap.size w1 w2 := (((Below.refl w1.heap.size w1).alloc (Nat.le_refl _) _).alloc (by simp) _).trans (HH.out.2.2.mono (by omega))
  refine (clone64 a10 n10 c10 vs _ hl10 hn10 (H10.out.later hb2)).mono ?_
  rintro e w3 ⟨aa, ca, rfl, ha, hba, b3⟩
  have s3 := b3.size
  have HA := hide (And.intro ha (And.intro hba b3))
  have t14 : w3.cell? ⟨w1.heap.size + 1, 14, none⟩ = some (.pointer none) :=
    (b3.cell (p := ⟨w1.heap.size + 1, 14, none⟩) (by simp; omega)).trans ((HH.out.2.2.cell (p := ⟨w1.heap.size + 1, 14, none⟩) (by simp)).trans (cell_at (by simp) rfl))
  have f14 : w3.frozen? ⟨w1.heap.size + 1, 14, none⟩ = false :=
    (b3.frozen (p := ⟨w1.heap.size + 1, 14, none⟩) (by simp; omega)).trans ((HH.out.2.2.frozen (p := ⟨w1.heap.size + 1, 14, none⟩) (by simp)).trans (frozen_at (by simp)))
  have hR3 : w1.heap.size + 1 < w3.heap.size := by omega
  clear ha hba b3 hb2
  go_wp2_with fail
  generalize hW : World.alloc _ (Obj.cells #[Value.string _, _, _, _, _] 57) = W
  have HL : Hid (Laid w1 W app ans rd { data := #[102, 101, 116, 99, 104, 45, 97, 110, 115, 119, 101, 114] } a1 need clock (self % 16) hs vs n9 n10 (w1.heap.size + 1) w3.heap.size (w3.heap.size + 1) ah aa ch ca) := by
    subst hW
    exact laid_of rfl rfl rfl rfl rfl rfl HH.out.1 HH.out.2.1 HH.out.2.2 HA.out.1 HA.out.2.1 HA.out.2.2
  have hMS : some (w3.heap.size + 1) ≠ some w1.heap.size := by simp; omega
  have HC := hide (hold_plain (w1.heap.size + 1) w1.heap.size (w3.heap.size + 1) _ (.inr (.inl rfl)) rd a1 _ need _ HL.out.r9 HL.out.msg hMS (takeable_a w1.heap.size (w3.heap.size + 1) app ans rd a1 _ need _ HL.out.site HL.out.msg hMS))
  clear hW HK HH HA t14 f14
  refine HC.out.mono ?_
  rintro e w4 ⟨rfl, hg⟩
  have hB : Below w1.heap.size w1 w4 := HL.out.bel.grown hg HL.out.bel.size (by intro k hk; cases hk; exact Nat.le_refl _)
  have C9 := hide (H9.out.later hB).has
  have C10 := hide (H10.out.later hB).has
  have HB := hide hB
  clear hg hB HC HL H9 H10 hMS
  go_wp2_with fail
  go_loop [31, 30] (fun i t => ∃ k : Nat, k ≤ n9 ∧ i = .int .i64 k ∧ t = .int .i64 (ph (self % 16) hs clock k)) (fun i _ => n9 - (intOf i).toNat)
  case atStart => exact ⟨0, Nat.zero_le _, rfl, rfl⟩
  case round =>
    obtain ⟨k, hk, rfl, rfl⟩ := hrel
    by_cases hlt : k < n9
    · obtain ⟨b, off, rfl, hc⟩ := C9.out k hlt
      have HP : Hid (ph (self % 16) hs clock (k + 1) = if (k : Int) = self % 16 then ph (self % 16) hs clock k else if hs.getD k 0 < ph (self % 16) hs clock k then hs.getD k 0 else ph (self % 16) hs clock k) := rfl
      generalize hs.getD k 0 = z at *
      generalize ph (self % 16) hs clock k = t at *
      by_cases hks : (k : Int) = self % 16
      · have e1 : ((k : Int) != self % 16) = false := by simp [hks]
        have e2 := HP.out
        rw [if_pos hks] at e2
        have HE := hide e2
        clear e2 hks HP
        go_wp2
        go_round
        case rel => exact ⟨k + 1, by omega, by go_num, by rw [HE.out]⟩
        case measure => simp [intOf]; omega
      · have e1 : ((k : Int) != self % 16) = true := by simp [hks]
        have e2 := HP.out
        rw [if_neg hks] at e2
        clear hks HP
        by_cases hzt : z < t
        · rw [if_pos hzt] at e2
          have HE := hide e2
          clear e2
          go_wp2
          go_round
          case rel => exact ⟨k + 1, by omega, by go_num, by rw [HE.out]⟩
          case measure => simp [intOf]; omega
        · rw [if_neg hzt] at e2
          have HE := hide e2
          have d1 : decide (z < t) = false := by simpa using hzt
          clear e2
          go_wp2
          go_round
          case rel => exact ⟨k + 1, by omega, by go_num, by rw [HE.out]⟩
          case measure => simp [intOf]; omega
    · have hkn : k = n9 := by omega
      subst hkn
      clear C9
      go_wp2_with fail
      go_loop [32, 30] (fun i t => ∃ j : Nat, j ≤ n10 ∧ i = .int .i64 j ∧ t = .int .i64 (pa vs (ph (self % 16) hs clock k) j)) (fun i _ => n10 - (intOf i).toNat)
      case atStart => exact ⟨0, Nat.zero_le _, rfl, rfl⟩
      case round =>
        obtain ⟨j, hj, rfl, rfl⟩ := hrel
        by_cases hlt : j < n10
        · obtain ⟨b, off, rfl, hc⟩ := C10.out j hlt
          have e2 : pa vs (ph (self % 16) hs clock k) (j + 1) = if wrap64 (vs.getD j 0 - 1) < pa vs (ph (self % 16) hs clock k) j then wrap64 (vs.getD j 0 - 1) else pa vs (ph (self % 16) hs clock k) j := rfl
          by_cases hzt : wrap64 (vs.getD j 0 - 1) < pa vs (ph (self % 16) hs clock k) j
          · rw [if_pos hzt] at e2
            have HE := hide e2
            clear e2
            generalize vs.getD j 0 = z at *
            generalize pa vs (ph (self % 16) hs clock k) j = t at *
            go_wp2
            go_round
            case rel => exact ⟨j + 1, by omega, by go_num, by rw [HE.out]⟩
            case measure => simp [intOf]; omega
          · rw [if_neg hzt] at e2
            have HE := hide e2
            clear e2
            generalize vs.getD j 0 = z at *
            generalize pa vs (ph (self % 16) hs clock k) j = t at *
            have d1 : decide (wrap64 (z - 1) < t) = false := by simpa using hzt
            go_wp2
            go_round
            case rel => exact ⟨j + 1, by omega, by go_num, by rw [HE.out]⟩
            case measure => simp [intOf]; omega
        · have hjn : j = n10 := by omega
          subst hjn
          clear C10
          cases rd with
          | false =>
            have e1 : outc false false 0 need = 1 := by simp [outc]
            rw [e1]
            go_wp2
            go_ret
            exact ⟨rfl, HB.out⟩
          | true =>
            have e1 : outc true false 0 need = 0 := by simp [outc]
            rw [e1]
            go_wp2
            go_ret
            exact ⟨rfl, HB.out⟩

set_option maxHeartbeats 2000000 in
set_option maxRecDepth 100000 in
theorem law_sn_cr (a0 a1 : Int) (app ans rd : Bool) (need clock self : Int) (a9 : Option Addr) (n9 c9 : Nat) (a10 : Option Addr) (n10 c10 : Nat) (hs vs : List Int) (w : World) (hn9 : n9 ≤ 1024) (hn10 : n10 ≤ 1024) (hs0 : 0 ≤ self) (hs1 : self ≤ 255)
    (hl9 : hs.length = n9) (hl10 : vs.length = n10) (hc9 : Came w a9 n9 hs) (hc10 : Came w a10 n10 vs)
    (hk : ∀ w, Calls Yba.prog 7 #[.int .u8 a0] w fun e w' => e = .returned (.string { data := #[99, 108, 111, 99, 107, 45, 114, 101, 113, 117, 101, 115, 116] }) ∧ w' = w) :
    Calls Yba.prog 3 #[.int .u8 a0, .int .i64 a1, .bool app, .bool ans, .bool rd, .int .i64 need, .int .i64 clock, .bool true, .int .u8 self, .slice a9 n9 c9, .slice a10 n10 c10] w fun e w' => e = .returned (.bool true) ∧ Below w.heap.size w w' := by
  have d9 : decide ((1024 : Int) < (n9 : Int)) = false := by simp; omega
  have d10 : decide ((1024 : Int) < (n10 : Int)) = false := by simp; omega
  have HK := hide hk
  have H9 := hide hc9
  have H10 := hide hc10
  clear hk hc9 hc10
  go_enter Yba.func3, Yba.ntmps3
  go_wp2_with (go_at_call 7; refine (HK.out _).mono ?_; rintro e w1 ⟨rfl, rfl⟩)
  have hb0 : ∀ x y : Obj, Below w1.heap.size w1 ((w1.alloc x).alloc y) := fun x y => ((Below.refl w1.heap.size w1).alloc (Nat.le_refl _) _).alloc (by simp) _
  refine (clone64 a9 n9 c9 hs _ hl9 hn9 (H9.out.later (hb0 _ _))).mono ?_
  rintro e w2 ⟨ah, ch, rfl, hh, hbh, b2⟩
  have s2 := b2.size
  simp only [World.size_alloc] at s2 hbh b2
  have HH := hide (And.intro hh (And.intro hbh b2))
  clear hh hbh b2 hb0
  go_wp2_with fail
  have hb2 : Below w1.heap.size w1 w2 := (((Below.refl w1.heap.size w1).alloc (Nat.le_refl _) _).alloc (by simp) _).trans (HH.out.2.2.mono (by omega))
  refine (clone64 a10 n10 c10 vs _ hl10 hn10 (H10.out.later hb2)).mono ?_
  rintro e w3 ⟨aa, ca, rfl, ha, hba, b3⟩
  have s3 := b3.size
  have HA := hide (And.intro ha (And.intro hba b3))
  have t14 : w3.cell? ⟨w1.heap.size + 1, 14, none⟩ = some (.pointer none) :=
    (b3.cell (p := ⟨w1.heap.size + 1, 14, none⟩) (by simp; omega)).trans ((HH.out.2.2.cell (p := ⟨w1.heap.size + 1, 14, none⟩) (by simp)).trans (cell_at (by simp) rfl))
  have f14 : w3.frozen? ⟨w1.heap.size + 1, 14, none⟩ = false :=
    (b3.frozen (p := ⟨w1.heap.size + 1, 14, none⟩) (by simp; omega)).trans ((HH.out.2.2.frozen (p := ⟨w1.heap.size + 1, 14, none⟩) (by simp)).trans (frozen_at (by simp)))
  have hR3 : w1.heap.size + 1 < w3.heap.size := by omega
  clear ha hba b3 hb2
  go_wp2_with fail
  generalize hW : World.alloc _ (Obj.cells #[Value.string _, _, _, _, _] 57) = W
  have HL : Hid (Laid w1 W app ans rd { data := #[99, 108, 111, 99, 107, 45, 114, 101, 113, 117, 101, 115, 116] } a1 need clock (self % 16) hs vs n9 n10 (w1.heap.size + 1) w3.heap.size (w3.heap.size + 1) ah aa ch ca) := by
    subst hW
    exact laid_of rfl rfl rfl rfl rfl rfl HH.out.1 HH.out.2.1 HH.out.2.2 HA.out.1 HA.out.2.1 HA.out.2.2
  have hMS : some (w3.heap.size + 1) ≠ some w1.heap.size := by simp; omega
  have HC := hide (hold_plain (w1.heap.size + 1) w1.heap.size (w3.heap.size + 1) _ (.inr (.inr (.inl rfl))) true a1 _ need _ HL.out.r9 HL.out.msg hMS ((takeable_d w1.heap.size (w3.heap.size + 1) _ (.inl rfl) a1 _ need _ HL.out.msg).mono (by rintro e w' ⟨rfl, rfl⟩; exact ⟨rfl, World.grownBy.refl _ _⟩)))
  clear hW HK HH HA t14 f14
  refine HC.out.mono ?_
  rintro e w4 ⟨rfl, hg⟩
  have hB : Below w1.heap.size w1 w4 := HL.out.bel.grown hg HL.out.bel.size (by intro k hk; cases hk; exact Nat.le_refl _)
  have C9 := hide (H9.out.later hB).has
  have C10 := hide (H10.out.later hB).has
  have HB := hide hB
  clear hg hB HC HL H9 H10 hMS
  go_wp2_with fail
  go_loop [31, 30] (fun i t => ∃ k : Nat, k ≤ n9 ∧ i = .int .i64 k ∧ t = .int .i64 (ph (self % 16) hs clock k)) (fun i _ => n9 - (intOf i).toNat)
  case atStart => exact ⟨0, Nat.zero_le _, rfl, rfl⟩
  case round =>
    obtain ⟨k, hk, rfl, rfl⟩ := hrel
    by_cases hlt : k < n9
    · obtain ⟨b, off, rfl, hc⟩ := C9.out k hlt
      have HP : Hid (ph (self % 16) hs clock (k + 1) = if (k : Int) = self % 16 then ph (self % 16) hs clock k else if hs.getD k 0 < ph (self % 16) hs clock k then hs.getD k 0 else ph (self % 16) hs clock k) := rfl
      generalize hs.getD k 0 = z at *
      generalize ph (self % 16) hs clock k = t at *
      by_cases hks : (k : Int) = self % 16
      · have e1 : ((k : Int) != self % 16) = false := by simp [hks]
        have e2 := HP.out
        rw [if_pos hks] at e2
        have HE := hide e2
        clear e2 hks HP
        go_wp2
        go_round
        case rel => exact ⟨k + 1, by omega, by go_num, by rw [HE.out]⟩
        case measure => simp [intOf]; omega
      · have e1 : ((k : Int) != self % 16) = true := by simp [hks]
        have e2 := HP.out
        rw [if_neg hks] at e2
        clear hks HP
        by_cases hzt : z < t
        · rw [if_pos hzt] at e2
          have HE := hide e2
          clear e2
          go_wp2
          go_round
          case rel => exact ⟨k + 1, by omega, by go_num, by rw [HE.out]⟩
          case measure => simp [intOf]; omega
        · rw [if_neg hzt] at e2
          have HE := hide e2
          have d1 : decide (z < t) = false := by simpa using hzt
          clear e2
          go_wp2
          go_round
          case rel => exact ⟨k + 1, by omega, by go_num, by rw [HE.out]⟩
          case measure => simp [intOf]; omega
    · have hkn : k = n9 := by omega
      subst hkn
      clear C9
      go_wp2_with fail
      go_loop [32, 30] (fun i t => ∃ j : Nat, j ≤ n10 ∧ i = .int .i64 j ∧ t = .int .i64 (pa vs (ph (self % 16) hs clock k) j)) (fun i _ => n10 - (intOf i).toNat)
      case atStart => exact ⟨0, Nat.zero_le _, rfl, rfl⟩
      case round =>
        obtain ⟨j, hj, rfl, rfl⟩ := hrel
        by_cases hlt : j < n10
        · obtain ⟨b, off, rfl, hc⟩ := C10.out j hlt
          have e2 : pa vs (ph (self % 16) hs clock k) (j + 1) = if wrap64 (vs.getD j 0 - 1) < pa vs (ph (self % 16) hs clock k) j then wrap64 (vs.getD j 0 - 1) else pa vs (ph (self % 16) hs clock k) j := rfl
          by_cases hzt : wrap64 (vs.getD j 0 - 1) < pa vs (ph (self % 16) hs clock k) j
          · rw [if_pos hzt] at e2
            have HE := hide e2
            clear e2
            generalize vs.getD j 0 = z at *
            generalize pa vs (ph (self % 16) hs clock k) j = t at *
            go_wp2
            go_round
            case rel => exact ⟨j + 1, by omega, by go_num, by rw [HE.out]⟩
            case measure => simp [intOf]; omega
          · rw [if_neg hzt] at e2
            have HE := hide e2
            clear e2
            generalize vs.getD j 0 = z at *
            generalize pa vs (ph (self % 16) hs clock k) j = t at *
            have d1 : decide (wrap64 (z - 1) < t) = false := by simpa using hzt
            go_wp2
            go_round
            case rel => exact ⟨j + 1, by omega, by go_num, by rw [HE.out]⟩
            case measure => simp [intOf]; omega
        · have hjn : j = n10 := by omega
          subst hjn
          clear C10
          have e1 : outc true false 0 need = 0 := by simp [outc]
          rw [e1]
          go_wp2
          go_ret
          exact ⟨rfl, HB.out⟩

set_option maxHeartbeats 2000000 in
set_option maxRecDepth 100000 in
theorem law_sn_c (a0 a1 : Int) (app ans rd : Bool) (need clock self : Int) (a9 : Option Addr) (n9 c9 : Nat) (a10 : Option Addr) (n10 c10 : Nat) (hs vs : List Int) (w : World) (hn9 : n9 ≤ 1024) (hn10 : n10 ≤ 1024) (hs0 : 0 ≤ self) (hs1 : self ≤ 255)
    (hl9 : hs.length = n9) (hl10 : vs.length = n10) (hc9 : Came w a9 n9 hs) (hc10 : Came w a10 n10 vs)
    (hk : ∀ w, Calls Yba.prog 7 #[.int .u8 a0] w fun e w' => e = .returned (.string { data := #[99, 108, 111, 99, 107] }) ∧ w' = w) :
    Calls Yba.prog 3 #[.int .u8 a0, .int .i64 a1, .bool app, .bool ans, .bool rd, .int .i64 need, .int .i64 clock, .bool true, .int .u8 self, .slice a9 n9 c9, .slice a10 n10 c10] w fun e w' => e = .returned (.bool true) ∧ Below w.heap.size w w' := by
  have d9 : decide ((1024 : Int) < (n9 : Int)) = false := by simp; omega
  have d10 : decide ((1024 : Int) < (n10 : Int)) = false := by simp; omega
  have HK := hide hk
  have H9 := hide hc9
  have H10 := hide hc10
  clear hk hc9 hc10
  go_enter Yba.func3, Yba.ntmps3
  go_wp2_with (go_at_call 7; refine (HK.out _).mono ?_; rintro e w1 ⟨rfl, rfl⟩)
  have hb0 : ∀ x y : Obj, Below w1.heap.size w1 ((w1.alloc x).alloc y) := fun x y => ((Below.refl w1.heap.size w1).alloc (Nat.le_refl _) _).alloc (by simp) _
  refine (clone64 a9 n9 c9 hs _ hl9 hn9 (H9.out.later (hb0 _ _))).mono ?_
  rintro e w2 ⟨ah, ch, rfl, hh, hbh, b2⟩
  have s2 := b2.size
  simp only [World.size_alloc] at s2 hbh b2
  have HH := hide (And.intro hh (And.intro hbh b2))
  clear hh hbh b2 hb0
  go_wp2_with fail
  have hb2 : Below w1.heap.size w1 w2 := (((Below.refl w1.heap.size w1).alloc (Nat.le_refl _) _).alloc (by simp) _).trans (HH.out.2.2.mono (by omega))
  refine (clone64 a10 n10 c10 vs _ hl10 hn10 (H10.out.later hb2)).mono ?_
  rintro e w3 ⟨aa, ca, rfl, ha, hba, b3⟩
  have s3 := b3.size
  have HA := hide (And.intro ha (And.intro hba b3))
  have t14 : w3.cell? ⟨w1.heap.size + 1, 14, none⟩ = some (.pointer none) :=
    (b3.cell (p := ⟨w1.heap.size + 1, 14, none⟩) (by simp; omega)).trans ((HH.out.2.2.cell (p := ⟨w1.heap.size + 1, 14, none⟩) (by simp)).trans (cell_at (by simp) rfl))
  have f14 : w3.frozen? ⟨w1.heap.size + 1, 14, none⟩ = false :=
    (b3.frozen (p := ⟨w1.heap.size + 1, 14, none⟩) (by simp; omega)).trans ((HH.out.2.2.frozen (p := ⟨w1.heap.size + 1, 14, none⟩) (by simp)).trans (frozen_at (by simp)))
  have hR3 : w1.heap.size + 1 < w3.heap.size := by omega
  clear ha hba b3 hb2
  go_wp2_with fail
  generalize hW : World.alloc _ (Obj.cells #[Value.string _, _, _, _, _] 57) = W
  have HL : Hid (Laid w1 W app ans rd { data := #[99, 108, 111, 99, 107] } a1 need clock (self % 16) hs vs n9 n10 (w1.heap.size + 1) w3.heap.size (w3.heap.size + 1) ah aa ch ca) := by
    subst hW
    exact laid_of rfl rfl rfl rfl rfl rfl HH.out.1 HH.out.2.1 HH.out.2.2 HA.out.1 HA.out.2.1 HA.out.2.2
  have hMS : some (w3.heap.size + 1) ≠ some w1.heap.size := by simp; omega
  have HC := hide (hold_plain (w1.heap.size + 1) w1.heap.size (w3.heap.size + 1) _ (.inr (.inr (.inr (.inl rfl)))) true a1 _ need _ HL.out.r9 HL.out.msg hMS ((takeable_d w1.heap.size (w3.heap.size + 1) _ (.inr (.inl rfl)) a1 _ need _ HL.out.msg).mono (by rintro e w' ⟨rfl, rfl⟩; exact ⟨rfl, World.grownBy.refl _ _⟩)))
  clear hW HK HH HA t14 f14
  refine HC.out.mono ?_
  rintro e w4 ⟨rfl, hg⟩
  have hB : Below w1.heap.size w1 w4 := HL.out.bel.grown hg HL.out.bel.size (by intro k hk; cases hk; exact Nat.le_refl _)
  have C9 := hide (H9.out.later hB).has
  have C10 := hide (H10.out.later hB).has
  have HB := hide hB
  clear hg hB HC HL H9 H10 hMS
  go_wp2_with fail
  go_loop [31, 30] (fun i t => ∃ k : Nat, k ≤ n9 ∧ i = .int .i64 k ∧ t = .int .i64 (ph (self % 16) hs clock k)) (fun i _ => n9 - (intOf i).toNat)
  case atStart => exact ⟨0, Nat.zero_le _, rfl, rfl⟩
  case round =>
    obtain ⟨k, hk, rfl, rfl⟩ := hrel
    by_cases hlt : k < n9
    · obtain ⟨b, off, rfl, hc⟩ := C9.out k hlt
      have HP : Hid (ph (self % 16) hs clock (k + 1) = if (k : Int) = self % 16 then ph (self % 16) hs clock k else if hs.getD k 0 < ph (self % 16) hs clock k then hs.getD k 0 else ph (self % 16) hs clock k) := rfl
      generalize hs.getD k 0 = z at *
      generalize ph (self % 16) hs clock k = t at *
      by_cases hks : (k : Int) = self % 16
      · have e1 : ((k : Int) != self % 16) = false := by simp [hks]
        have e2 := HP.out
        rw [if_pos hks] at e2
        have HE := hide e2
        clear e2 hks HP
        go_wp2
        go_round
        case rel => exact ⟨k + 1, by omega, by go_num, by rw [HE.out]⟩
        case measure => simp [intOf]; omega
      · have e1 : ((k : Int) != self % 16) = true := by simp [hks]
        have e2 := HP.out
        rw [if_neg hks] at e2
        clear hks HP
        by_cases hzt : z < t
        · rw [if_pos hzt] at e2
          have HE := hide e2
          clear e2
          go_wp2
          go_round
          case rel => exact ⟨k + 1, by omega, by go_num, by rw [HE.out]⟩
          case measure => simp [intOf]; omega
        · rw [if_neg hzt] at e2
          have HE := hide e2
          have d1 : decide (z < t) = false := by simpa using hzt
          clear e2
          go_wp2
          go_round
          case rel => exact ⟨k + 1, by omega, by go_num, by rw [HE.out]⟩
          case measure => simp [intOf]; omega
    · have hkn : k = n9 := by omega
      subst hkn
      clear C9
      go_wp2_with fail
      go_loop [32, 30] (fun i t => ∃ j : Nat, j ≤ n10 ∧ i = .int .i64 j ∧ t = .int .i64 (pa vs (ph (self % 16) hs clock k) j)) (fun i _ => n10 - (intOf i).toNat)
      case atStart => exact ⟨0, Nat.zero_le _, rfl, rfl⟩
      case round =>
        obtain ⟨j, hj, rfl, rfl⟩ := hrel
        by_cases hlt : j < n10
        · obtain ⟨b, off, rfl, hc⟩ := C10.out j hlt
          have e2 : pa vs (ph (self % 16) hs clock k) (j + 1) = if wrap64 (vs.getD j 0 - 1) < pa vs (ph (self % 16) hs clock k) j then wrap64 (vs.getD j 0 - 1) else pa vs (ph (self % 16) hs clock k) j := rfl
          by_cases hzt : wrap64 (vs.getD j 0 - 1) < pa vs (ph (self % 16) hs clock k) j
          · rw [if_pos hzt] at e2
            have HE := hide e2
            clear e2
            generalize vs.getD j 0 = z at *
            generalize pa vs (ph (self % 16) hs clock k) j = t at *
            go_wp2
            go_round
            case rel => exact ⟨j + 1, by omega, by go_num, by rw [HE.out]⟩
            case measure => simp [intOf]; omega
          · rw [if_neg hzt] at e2
            have HE := hide e2
            clear e2
            generalize vs.getD j 0 = z at *
            generalize pa vs (ph (self % 16) hs clock k) j = t at *
            have d1 : decide (wrap64 (z - 1) < t) = false := by simpa using hzt
            go_wp2
            go_round
            case rel => exact ⟨j + 1, by omega, by go_num, by rw [HE.out]⟩
            case measure => simp [intOf]; omega
        · have hjn : j = n10 := by omega
          subst hjn
          clear C10
          have e1 : outc true false 0 need = 0 := by simp [outc]
          rw [e1]
          go_wp2
          go_ret
          exact ⟨rfl, HB.out⟩

set_option maxHeartbeats 2000000 in
set_option maxRecDepth 100000 in
theorem law_sn_o (a0 a1 : Int) (app ans rd : Bool) (need clock self : Int) (a9 : Option Addr) (n9 c9 : Nat) (a10 : Option Addr) (n10 c10 : Nat) (hs vs : List Int) (w : World) (hn9 : n9 ≤ 1024) (hn10 : n10 ≤ 1024) (hs0 : 0 ≤ self) (hs1 : self ≤ 255)
    (hl9 : hs.length = n9) (hl10 : vs.length = n10) (hc9 : Came w a9 n9 hs) (hc10 : Came w a10 n10 vs)
    (hk : ∀ w, Calls Yba.prog 7 #[.int .u8 a0] w fun e w' => e = .returned (.string { data := #[111, 116, 104, 101, 114] }) ∧ w' = w) :
    Calls Yba.prog 3 #[.int .u8 a0, .int .i64 a1, .bool app, .bool ans, .bool rd, .int .i64 need, .int .i64 clock, .bool true, .int .u8 self, .slice a9 n9 c9, .slice a10 n10 c10] w fun e w' => e = .returned (.bool true) ∧ Below w.heap.size w w' := by
  have d9 : decide ((1024 : Int) < (n9 : Int)) = false := by simp; omega
  have d10 : decide ((1024 : Int) < (n10 : Int)) = false := by simp; omega
  have HK := hide hk
  have H9 := hide hc9
  have H10 := hide hc10
  clear hk hc9 hc10
  go_enter Yba.func3, Yba.ntmps3
  go_wp2_with (go_at_call 7; refine (HK.out _).mono ?_; rintro e w1 ⟨rfl, rfl⟩)
  have hb0 : ∀ x y : Obj, Below w1.heap.size w1 ((w1.alloc x).alloc y) := fun x y => ((Below.refl w1.heap.size w1).alloc (Nat.le_refl _) _).alloc (by simp) _
  refine (clone64 a9 n9 c9 hs _ hl9 hn9 (H9.out.later (hb0 _ _))).mono ?_
  rintro e w2 ⟨ah, ch, rfl, hh, hbh, b2⟩
  have s2 := b2.size
  simp only [World.size_alloc] at s2 hbh b2
  have HH := hide (And.intro hh (And.intro hbh b2))
  clear hh hbh b2 hb0
  go_wp2_with fail
  have hb2 : Below w1.heap.size w1 w2 := (((Below.refl w1.heap.size w1).alloc (Nat.le_refl _) _).alloc (by simp) _).trans (HH.out.2.2.mono (by omega))
  refine (clone64 a10 n10 c10 vs _ hl10 hn10 (H10.out.later hb2)).mono ?_
  rintro e w3 ⟨aa, ca, rfl, ha, hba, b3⟩
  have s3 := b3.size
  have HA := hide (And.intro ha (And.intro hba b3))
  have t14 : w3.cell? ⟨w1.heap.size + 1, 14, none⟩ = some (.pointer none) :=
    (b3.cell (p := ⟨w1.heap.size + 1, 14, none⟩) (by simp; omega)).trans ((HH.out.2.2.cell (p := ⟨w1.heap.size + 1, 14, none⟩) (by simp)).trans (cell_at (by simp) rfl))
  have f14 : w3.frozen? ⟨w1.heap.size + 1, 14, none⟩ = false :=
    (b3.frozen (p := ⟨w1.heap.size + 1, 14, none⟩) (by simp; omega)).trans ((HH.out.2.2.frozen (p := ⟨w1.heap.size + 1, 14, none⟩) (by simp)).trans (frozen_at (by simp)))
  have hR3 : w1.heap.size + 1 < w3.heap.size := by omega
  clear ha hba b3 hb2
  go_wp2_with fail
  generalize hW : World.alloc _ (Obj.cells #[Value.string _, _, _, _, _] 57) = W
  have HL : Hid (Laid w1 W app ans rd { data := #[111, 116, 104, 101, 114] } a1 need clock (self % 16) hs vs n9 n10 (w1.heap.size + 1) w3.heap.size (w3.heap.size + 1) ah aa ch ca) := by
    subst hW
    exact laid_of rfl rfl rfl rfl rfl rfl HH.out.1 HH.out.2.1 HH.out.2.2 HA.out.1 HA.out.2.1 HA.out.2.2
  have hMS : some (w3.heap.size + 1) ≠ some w1.heap.size := by simp; omega
  have HC := hide (hold_plain (w1.heap.size + 1) w1.heap.size (w3.heap.size + 1) _ (.inr (.inr (.inr (.inr rfl)))) true a1 _ need _ HL.out.r9 HL.out.msg hMS ((takeable_d w1.heap.size (w3.heap.size + 1) _ (.inr (.inr rfl)) a1 _ need _ HL.out.msg).mono (by rintro e w' ⟨rfl, rfl⟩; exact ⟨rfl, World.grownBy.refl _ _⟩)))
  clear hW HK HH HA t14 f14
  refine HC.out.mono ?_
  rintro e w4 ⟨rfl, hg⟩
  have hB : Below w1.heap.size w1 w4 := HL.out.bel.grown hg HL.out.bel.size (by intro k hk; cases hk; exact Nat.le_refl _)
  have C9 := hide (H9.out.later hB).has
  have C10 := hide (H10.out.later hB).has
  have HB := hide hB
  clear hg hB HC HL H9 H10 hMS
  go_wp2_with fail
  go_loop [31, 30] (fun i t => ∃ k : Nat, k ≤ n9 ∧ i = .int .i64 k ∧ t = .int .i64 (ph (self % 16) hs clock k)) (fun i _ => n9 - (intOf i).toNat)
  case atStart => exact ⟨0, Nat.zero_le _, rfl, rfl⟩
  case round =>
    obtain ⟨k, hk, rfl, rfl⟩ := hrel
    by_cases hlt : k < n9
    · obtain ⟨b, off, rfl, hc⟩ := C9.out k hlt
      have HP : Hid (ph (self % 16) hs clock (k + 1) = if (k : Int) = self % 16 then ph (self % 16) hs clock k else if hs.getD k 0 < ph (self % 16) hs clock k then hs.getD k 0 else ph (self % 16) hs clock k) := rfl
      generalize hs.getD k 0 = z at *
      generalize ph (self % 16) hs clock k = t at *
      by_cases hks : (k : Int) = self % 16
      · have e1 : ((k : Int) != self % 16) = false := by simp [hks]
        have e2 := HP.out
        rw [if_pos hks] at e2
        have HE := hide e2
        clear e2 hks HP
        go_wp2
        go_round
        case rel => exact ⟨k + 1, by omega, by go_num, by rw [HE.out]⟩
        case measure => simp [intOf]; omega
      · have e1 : ((k : Int) != self % 16) = true := by simp [hks]
        have e2 := HP.out
        rw [if_neg hks] at e2
        clear hks HP
        by_cases hzt : z < t
        · rw [if_pos hzt] at e2
          have HE := hide e2
          clear e2
          go_wp2
          go_round
          case rel => exact ⟨k + 1, by omega, by go_num, by rw [HE.out]⟩
          case measure => simp [intOf]; omega
        · rw [if_neg hzt] at e2
          have HE := hide e2
          have d1 : decide (z < t) = false := by simpa using hzt
          clear e2
          go_wp2
          go_round
          case rel => exact ⟨k + 1, by omega, by go_num, by rw [HE.out]⟩
          case measure => simp [intOf]; omega
    · have hkn : k = n9 := by omega
      subst hkn
      clear C9
      go_wp2_with fail
      go_loop [32, 30] (fun i t => ∃ j : Nat, j ≤ n10 ∧ i = .int .i64 j ∧ t = .int .i64 (pa vs (ph (self % 16) hs clock k) j)) (fun i _ => n10 - (intOf i).toNat)
      case atStart => exact ⟨0, Nat.zero_le _, rfl, rfl⟩
      case round =>
        obtain ⟨j, hj, rfl, rfl⟩ := hrel
        by_cases hlt : j < n10
        · obtain ⟨b, off, rfl, hc⟩ := C10.out j hlt
          have e2 : pa vs (ph (self % 16) hs clock k) (j + 1) = if wrap64 (vs.getD j 0 - 1) < pa vs (ph (self % 16) hs clock k) j then wrap64 (vs.getD j 0 - 1) else pa vs (ph (self % 16) hs clock k) j := rfl
          by_cases hzt : wrap64 (vs.getD j 0 - 1) < pa vs (ph (self % 16) hs clock k) j
          · rw [if_pos hzt] at e2
            have HE := hide e2
            clear e2
            generalize vs.getD j 0 = z at *
            generalize pa vs (ph (self % 16) hs clock k) j = t at *
            go_wp2
            go_round
            case rel => exact ⟨j + 1, by omega, by go_num, by rw [HE.out]⟩
            case measure => simp [intOf]; omega
          · rw [if_neg hzt] at e2
            have HE := hide e2
            clear e2
            generalize vs.getD j 0 = z at *
            generalize pa vs (ph (self % 16) hs clock k) j = t at *
            have d1 : decide (wrap64 (z - 1) < t) = false := by simpa using hzt
            go_wp2
            go_round
            case rel => exact ⟨j + 1, by omega, by go_num, by rw [HE.out]⟩
            case measure => simp [intOf]; omega
        · have hjn : j = n10 := by omega
          subst hjn
          clear C10
          have e1 : outc true false 0 need = 0 := by simp [outc]
          rw [e1]
          go_wp2
          go_ret
          exact ⟨rfl, HB.out⟩

end Go.Proofs.Ybulkbacs.lawS2566BOutcome
