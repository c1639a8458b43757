import Derived.Test.YbulkbacsOutcome
namespace Go.Proofs.Ybulkbacs.lawS2566BOutcome
open Go.ChangeShapes Go.WideShapes Go.ChangeAt Go.RowKit
set_option linter.unusedVariables false

set_option maxHeartbeats 2000000 in
set_option maxRecDepth 100000 in
theorem law_no_u (a0 a1 : Int) (app ans rd : Bool) (need clock self : Int) (a9 : Option Addr) (n9 c9 : Nat) (a10 : Option Addr) (n10 c10 : Nat) (w : World) (hn9 : n9 ≤ 1024) (hn10 : n10 ≤ 1024) (hs0 : 0 ≤ self) (hs1 : self ≤ 255)
    (hnd : need ≤ 9223372036854775807)
    (hk : ∀ w, Calls Yba.prog 7 #[.int .u8 a0] w fun e w' => e = .returned (.string { data := #[117, 112, 100, 97, 116, 101] }) ∧ w' = w) :
    Calls Yba.prog 3 #[.int .u8 a0, .int .i64 a1, .bool app, .bool ans, .bool rd, .int .i64 need, .int .i64 clock, .bool false, .int .u8 self, .slice a9 n9 c9, .slice a10 n10 c10] w fun e w' => e = .returned (.bool true) ∧ Below w.heap.size w w' := by
  have d9 : decide ((1024 : Int) < (n9 : Int)) = false := by simp; omega
  have d10 : decide ((1024 : Int) < (n10 : Int)) = false := by simp; omega
  have HK := hide hk
  clear hk
  go_enter Yba.func3, Yba.ntmps3
  go_wp2_with (go_at_call 7; refine (HK.out _).mono ?_; rintro e w1 ⟨rfl, rfl⟩)
  generalize hW : World.alloc _ (Obj.cells #[Value.string _, _, _, _, _] 57) = W
  have hb : Below w1.heap.size w1 W := by
    subst hW
    exact (((Below.refl w1.heap.size w1).alloc (Nat.le_refl _) _).alloc (by simp) _).alloc (by simp; omega) _
  have hsite : Site W w1.heap.size app ans rd := by
    subst hW
    exact ⟨cell_alloc_old (cell_alloc_old (cell_at rfl rfl)), cell_alloc_old (cell_alloc_old (cell_at rfl rfl)), cell_alloc_old (cell_alloc_old (cell_at rfl rfl)), cell_alloc_old (cell_alloc_old (cell_at rfl rfl)), cell_alloc_old (cell_alloc_old (cell_at rfl rfl)), cell_alloc_old (cell_alloc_old (cell_at rfl rfl)), fun o => frozen_past (by simp; omega) (frozen_past (by simp) (frozen_at rfl))⟩
  have hmsg : Msg W (w1.heap.size + 1 + 1) { data := #[117, 112, 100, 97, 116, 101] } a1 (.agg #[.int .i64 7]) need := by
    subst hW
    exact ⟨cell_at (by simp) rfl, cell_at (by simp) rfl, cell_at (by simp) rfl, cell_at (by simp) rfl⟩
  have h9 : W.cell? ⟨w1.heap.size + 1, 9, none⟩ = some (.iface 25 (.pointer (some ⟨w1.heap.size, 0, none⟩))) := by
    subst hW
    exact cell_alloc_old (cell_at (by simp) rfl)
  have h14 : W.cell? ⟨w1.heap.size + 1, 14, none⟩ = some (.pointer none) := by
    subst hW
    exact cell_alloc_old (cell_at (by simp) rfl)
  have hMS : some (w1.heap.size + 1 + 1) ≠ some w1.heap.size := by simp; omega
  have HC := hide (hold_plain (w1.heap.size + 1) w1.heap.size (w1.heap.size + 1 + 1) _ (.inl rfl) app a1 _ need W h9 hmsg hMS (takeable_u w1.heap.size (w1.heap.size + 1 + 1) app ans rd a1 _ need W hsite hmsg hMS))
  clear hsite hmsg h9 h14 hW HK
  refine HC.out.mono ?_
  rintro e w2 ⟨rfl, hg⟩
  have HB : Hid (Below w1.heap.size w1 w2) := hb.grown hg hb.size (by intro k hk; cases hk; exact Nat.le_refl _)
  clear hg hb HC
  cases app with
  | false =>
    have e1 : outc false false 0 need = 1 := by simp [outc]
    rw [e1]
    go_wp2
    go_ret
    exact ⟨rfl, HB.out⟩
  | true =>
    have e1 : outc true false 0 need = 0 := by simp [outc]
    rw [e1]
    go_wp2
    go_ret
    exact ⟨rfl, HB.out⟩

set_option maxHeartbeats 2000000 in
set_option maxRecDepth 100000 in
theorem law_no_q (a0 a1 : Int) (app ans rd : Bool) (need clock self : Int) (a9 : Option Addr) (n9 c9 : Nat) (a10 : Option Addr) (n10 c10 : Nat) (w : World) (hn9 : n9 ≤ 1024) (hn10 : n10 ≤ 1024) (hs0 : 0 ≤ self) (hs1 : self ≤ 255)
    (hnd : need ≤ 9223372036854775807)
    (hk : ∀ w, Calls Yba.prog 7 #[.int .u8 a0] w fun e w' => e = .returned (.string { data := #[102, 101, 116, 99, 104, 45, 114, 101, 113, 117, 101, 115, 116] }) ∧ w' = w) :
    Calls Yba.prog 3 #[.int .u8 a0, .int .i64 a1, .bool app, .bool ans, .bool rd, .int .i64 need, .int .i64 clock, .bool false, .int .u8 self, .slice a9 n9 c9, .slice a10 n10 c10] w fun e w' => e = .returned (.bool true) ∧ Below w.heap.size w w' := by
  have d9 : decide ((1024 : Int) < (n9 : Int)) = false := by simp; omega
  have d10 : decide ((1024 : Int) < (n10 : Int)) = false := by simp; omega
  have HK := hide hk
  clear hk
  go_enter Yba.func3, Yba.ntmps3
  go_wp2_with (go_at_call 7; refine (HK.out _).mono ?_; rintro e w1 ⟨rfl, rfl⟩)
  generalize hW : World.alloc _ (Obj.cells #[Value.string _, _, _, _, _] 57) = W
  have hb : Below w1.heap.size w1 W := by
    subst hW
    exact (((Below.refl w1.heap.size w1).alloc (Nat.le_refl _) _).alloc (by simp) _).alloc (by simp; omega) _
  have hsite : Site W w1.heap.size app ans rd := by
    subst hW
    exact ⟨cell_alloc_old (cell_alloc_old (cell_at rfl rfl)), cell_alloc_old (cell_alloc_old (cell_at rfl rfl)), cell_alloc_old (cell_alloc_old (cell_at rfl rfl)), cell_alloc_old (cell_alloc_old (cell_at rfl rfl)), cell_alloc_old (cell_alloc_old (cell_at rfl rfl)), cell_alloc_old (cell_alloc_old (cell_at rfl rfl)), fun o => frozen_past (by simp; omega) (frozen_past (by simp) (frozen_at rfl))⟩
  have hmsg : Msg W (w1.heap.size + 1 + 1) { data := #[102, 101, 116, 99, 104, 45, 114, 101, 113, 117, 101, 115, 116] } a1 (.agg #[.int .i64 7]) need := by
    subst hW
    exact ⟨cell_at (by simp) rfl, cell_at (by simp) rfl, cell_at (by simp) rfl, cell_at (by simp) rfl⟩
  have h9 : W.cell? ⟨w1.heap.size + 1, 9, none⟩ = some (.iface 25 (.pointer (some ⟨w1.heap.size, 0, none⟩))) := by
    subst hW
    exact cell_alloc_old (cell_at (by simp) rfl)
  have h14 : W.cell? ⟨w1.heap.size + 1, 14, none⟩ = some (.pointer none) := by
    subst hW
    exact cell_alloc_old (cell_at (by simp) rfl)
  have hMS : some (w1.heap.size + 1 + 1) ≠ some w1.heap.size := by simp; omega
  have HC := hide (hold_q (w1.heap.size + 1) w1.heap.size (w1.heap.size + 1 + 1) ans a1 _ need 9223372036854775807 W h9 hmsg hMS (takeable_q w1.heap.size (w1.heap.size + 1 + 1) app ans rd a1 _ need W hsite hmsg hMS) (fun w2 hg => point_nil _ w2 (hg.cell h14 (by simp))))
  clear hsite hmsg h9 h14 hW HK
  refine HC.out.mono ?_
  rintro e w2 ⟨rfl, hg⟩
  have HB : Hid (Below w1.heap.size w1 w2) := hb.grown hg hb.size (by intro k hk; cases hk; exact Nat.le_refl _)
  clear hg hb HC
  have hpn : ¬ (9223372036854775807 : Int) < need := by omega
  have d1 : decide ((9223372036854775807 : Int) < need) = false := by simpa using hnd
  cases ans with
  | false =>
    have e1 : outc false true 9223372036854775807 need = 1 := by simp [outc]
    rw [e1]
    go_wp2
    go_ret
    exact ⟨rfl, HB.out⟩
  | true =>
    have e1 : outc true true 9223372036854775807 need = 0 := by simp [outc, hnd]
    rw [e1]
    go_wp2
    go_ret
    exact ⟨rfl, HB.out⟩

set_option maxHeartbeats 2000000 in
set_option maxRecDepth 100000 in
theorem law_no_a (a0 a1 : Int) (app ans rd : Bool) (need clock self : Int) (a9 : Option Addr) (n9 c9 : Nat) (a10 : Option Addr) (n10 c10 : Nat) (w : World) (hn9 : n9 ≤ 1024) (hn10 : n10 ≤ 1024) (hs0 : 0 ≤ self) (hs1 : self ≤ 255)
    (hnd : need ≤ 9223372036854775807)
    (hk : ∀ w, Calls Yba.prog 7 #[.int .u8 a0] w fun e w' => e = .returned (.string { data := #[102, 101, 116, 99, 104, 45, 97, 110, 115, 119, 101, 114] }) ∧ w' = w) :
    Calls Yba.prog 3 #[.int .u8 a0, .int .i64 a1, .bool app, .bool ans, .bool rd, .int .i64 need, .int .i64 clock, .bool false, .int .u8 self, .slice a9 n9 c9, .slice a10 n10 c10] w fun e w' => e = .returned (.bool true) ∧ Below w.heap.size w w' := by
  have d9 : decide ((1024 : Int) < (n9 : Int)) = false := by simp; omega
  have d10 : decide ((1024 : Int) < (n10 : Int)) = false := by simp; omega
  have HK := hide hk
  clear hk
  go_enter Yba.func3, Yba.ntmps3
  go_wp2_with (go_at_call 7; refine (HK.out _).mono ?_; rintro e w1 ⟨rfl, rfl⟩)
  generalize hW : World.alloc _ (Obj.cells #[Value.string _, _, _, _, _] 57) = W
  have hb : Below w1.heap.size w1 W := by
    subst hW
    exact (((Below.refl w1.heap.size w1).alloc (Nat.le_refl _) _).alloc (by simp) _).alloc (by simp; omega) _
  have hsite : Site W w1.heap.size app ans rd := by
    subst hW
    exact ⟨cell_alloc_old (cell_alloc_old (cell_at rfl rfl)), cell_alloc_old (cell_alloc_old (cell_at rfl rfl)), cell_alloc_old (cell_alloc_old (cell_at rfl rfl)), cell_alloc_old (cell_alloc_old (cell_at rfl rfl)), cell_alloc_old (cell_alloc_old (cell_at rfl rfl)), cell_alloc_old (cell_alloc_old (cell_at rfl rfl)), fun o => frozen_past (by simp; omega) (frozen_past (by simp) (frozen_at rfl))⟩
  have hmsg : Msg W (w1.heap.size + 1 + 1) { data := #[102, 101, 116, 99, 104, 45, 97, 110, 115, 119, 101, 114] } a1 (.agg #[.int .i64 7]) need := by
    subst hW
    exact ⟨cell_at (by simp) rfl, cell_at (by simp) rfl, cell_at (by simp) rfl, cell_at (by simp) rfl⟩
  have h9 : W.cell? ⟨w1.heap.size + 1, 9, none⟩ = some (.iface 25 (.pointer (some ⟨w1.heap.size, 0, none⟩))) := by
    subst hW
    exact cell_alloc_old (cell_at (by simp) rfl)
  have h14 : W.cell? ⟨w1.heap.size + 1, 14, none⟩ = some (.pointer none) := by
    subst hW
    exact cell_alloc_old (cell_at (by simp) rfl)
  have hMS : some (w1.heap.size + 1 + 1) ≠ some w1.heap.size := by simp; omega
  have HC := hide (hold_plain (w1.heap.size + 1) w1.heap.size (w1.heap.size + 1 + 1) _ (.inr (.inl rfl)) rd a1 _ need W h9 hmsg hMS (takeable_a w1.heap.size (w1.heap.size + 1 + 1) app ans rd a1 _ need W hsite hmsg hMS))
  clear hsite hmsg h9 h14 hW HK
  refine HC.out.mono ?_
  rintro e w2 ⟨rfl, hg⟩
  have HB : Hid (Below w1.heap.size w1 w2) := hb.grown hg hb.size (by intro k hk; cases hk; exact Nat.le_refl _)
  clear hg hb HC
  cases rd with
  | false =>
    have e1 : outc false false 0 need = 1 := by simp [outc]
    rw [e1]
    go_wp2
    go_ret
    exact ⟨rfl, HB.out⟩
  | true =>
    have e1 : outc true false 0 need = 0 := by simp [outc]
    rw [e1]
    go_wp2
    go_ret
    exact ⟨rfl, HB.out⟩

set_option maxHeartbeats 2000000 in
set_option maxRecDepth 100000 in
theorem law_no_cr (a0 a1 : Int) (app ans rd : Bool) (need clock self : Int) (a9 : Option Addr) (n9 c9 : Nat) (a10 : Option Addr) (n10 c10 : Nat) (w : World) (hn9 : n9 ≤ 1024) (hn10 : n10 ≤ 1024) (hs0 : 0 ≤ self) (hs1 : self ≤ 255)
    (hnd : need ≤ 9223372036854775807)
    (hk : ∀ w, Calls Yba.prog 7 #[.int .u8 a0] w fun e w' => e = .returned (.string { data := #[99, 108, 111, 99, 107, 45, 114, 101, 113, 117, 101, 115, 116] }) ∧ w' = w) :
    Calls Yba.prog 3 #[.int .u8 a0, .int .i64 a1, .bool app, .bool ans, .bool rd, .int .i64 need, .int .i64 clock, .bool false, .int .u8 self, .slice a9 n9 c9, .slice a10 n10 c10] w fun e w' => e = .returned (.bool true) ∧ Below w.heap.size w w' := by
  have d9 : decide ((1024 : Int) < (n9 : Int)) = false := by simp; omega
  have d10 : decide ((1024 : Int) < (n10 : Int)) = false := by simp; omega
  have HK := hide hk
  clear hk
  go_enter Yba.func3, Yba.ntmps3
  go_wp2_with (go_at_call 7; refine (HK.out _).mono ?_; rintro e w1 ⟨rfl, rfl⟩)
  generalize hW : World.alloc _ (Obj.cells #[Value.string _, _, _, _, _] 57) = W
  have hb : Below w1.heap.size w1 W := by
    subst hW
    exact (((Below.refl w1.heap.size w1).alloc (Nat.le_refl _) _).alloc (by simp) _).alloc (by simp; omega) _
  have hsite : Site W w1.heap.size app ans rd := by
    subst hW
    exact ⟨cell_alloc_old (cell_alloc_old (cell_at rfl rfl)), cell_alloc_old (cell_alloc_old (cell_at rfl rfl)), cell_alloc_old (cell_alloc_old (cell_at rfl rfl)), cell_alloc_old (cell_alloc_old (cell_at rfl rfl)), cell_alloc_old (cell_alloc_old (cell_at rfl rfl)), cell_alloc_old (cell_alloc_old (cell_at rfl rfl)), fun o => frozen_past (by simp; omega) (frozen_past (by simp) (frozen_at rfl))⟩
  have hmsg : Msg W (w1.heap.size + 1 + 1) { data := #[99, 108, 111, 99, 107, 45, 114, 101, 113, 117, 101, 115, 116] } a1 (.agg #[.int .i64 7]) need := by
    subst hW
    exact ⟨cell_at (by simp) rfl, cell_at (by simp) rfl, cell_at (by simp) rfl, cell_at (by simp) rfl⟩
  have h9 : W.cell? ⟨w1.heap.size + 1, 9, none⟩ = some (.iface 25 (.pointer (some ⟨w1.heap.size, 0, none⟩))) := by
    subst hW
    exact cell_alloc_old (cell_at (by simp) rfl)
  have h14 : W.cell? ⟨w1.heap.size + 1, 14, none⟩ = some (.pointer none) := by
    subst hW
    exact cell_alloc_old (cell_at (by simp) rfl)
  have hMS : some (w1.heap.size + 1 + 1) ≠ some w1.heap.size := by simp; omega
  have HC := hide (hold_plain (w1.heap.size + 1) w1.heap.size (w1.heap.size + 1 + 1) _ (.inr (.inr (.inl rfl))) true a1 _ need W h9 hmsg hMS ((takeable_d w1.heap.size (w1.heap.size + 1 + 1) _ (.inl rfl) a1 _ need W hmsg).mono (by rintro e w' ⟨rfl, rfl⟩; exact ⟨rfl, World.grownBy.refl _ _⟩)))
  clear hsite hmsg h9 h14 hW HK
  refine HC.out.mono ?_
  rintro e w2 ⟨rfl, hg⟩
  have HB : Hid (Below w1.heap.size w1 w2) := hb.grown hg hb.size (by intro k hk; cases hk; exact Nat.le_refl _)
  clear hg hb HC
  have e1 : outc true false 0 need = 0 := by simp [outc]
  rw [e1]
  go_wp2
  go_ret
  exact ⟨rfl, HB.out⟩

set_option maxHeartbeats 2000000 in
set_option maxRecDepth 100000 in
theorem law_no_c (a0 a1 : Int) (app ans rd : Bool) (need clock self : Int) (a9 : Option Addr) (n9 c9 : Nat) (a10 : Option Addr) (n10 c10 : Nat) (w : World) (hn9 : n9 ≤ 1024) (hn10 : n10 ≤ 1024) (hs0 : 0 ≤ self) (hs1 : self ≤ 255)
    (hnd : need ≤ 9223372036854775807)
    (hk : ∀ w, Calls Yba.prog 7 #[.int .u8 a0] w fun e w' => e = .returned (.string { data := #[99, 108, 111, 99, 107] }) ∧ w' = w) :
    Calls Yba.prog 3 #[.int .u8 a0, .int .i64 a1, .bool app, .bool ans, .bool rd, .int .i64 need, .int .i64 clock, .bool false, .int .u8 self, .slice a9 n9 c9, .slice a10 n10 c10] w fun e w' => e = .returned (.bool true) ∧ Below w.heap.size w w' := by
  have d9 : decide ((1024 : Int) < (n9 : Int)) = false := by simp; omega
  have d10 : decide ((1024 : Int) < (n10 : Int)) = false := by simp; omega
  have HK := hide hk
  clear hk
  go_enter Yba.func3, Yba.ntmps3
  go_wp2_with (go_at_call 7; refine (HK.out _).mono ?_; rintro e w1 ⟨rfl, rfl⟩)
  generalize hW : World.alloc _ (Obj.cells #[Value.string _, _, _, _, _] 57) = W
  have hb : Below w1.heap.size w1 W := by
    subst hW
    exact (((Below.refl w1.heap.size w1).alloc (Nat.le_refl _) _).alloc (by simp) _).alloc (by simp; omega) _
  have hsite : Site W w1.heap.size app ans rd := by
    subst hW
    exact ⟨cell_alloc_old (cell_alloc_old (cell_at rfl rfl)), cell_alloc_old (cell_alloc_old (cell_at rfl rfl)), cell_alloc_old (cell_alloc_old (cell_at rfl rfl)), cell_alloc_old (cell_alloc_old (cell_at rfl rfl)), cell_alloc_old (cell_alloc_old (cell_at rfl rfl)), cell_alloc_old (cell_alloc_old (cell_at rfl rfl)), fun o => frozen_past (by simp; omega) (frozen_past (by simp) (frozen_at rfl))⟩
  have hmsg : Msg W (w1.heap.size + 1 + 1) { data := #[99, 108, 111, 99, 107] } a1 (.agg #[.int .i64 7]) need := by
    subst hW
    exact ⟨cell_at (by simp) rfl, cell_at (by simp) rfl, cell_at (by simp) rfl, cell_at (by simp) rfl⟩
  have h9 : W.cell? ⟨w1.heap.size + 1, 9, none⟩ = some (.iface 25 (.pointer (some ⟨w1.heap.size, 0, none⟩))) := by
    subst hW
    exact cell_alloc_old (cell_at (by simp) rfl)
  have h14 : W.cell? ⟨w1.heap.size + 1, 14, none⟩ = some (.pointer none) := by
    subst hW
    exact cell_alloc_old (cell_at (by simp) rfl)
  have hMS : some (w1.heap.size + 1 + 1) ≠ some w1.heap.size := by simp; omega
  have HC := hide (hold_plain (w1.heap.size + 1) w1.heap.size (w1.heap.size + 1 + 1) _ (.inr (.inr (.inr (.inl rfl)))) true a1 _ need W h9 hmsg hMS ((takeable_d w1.heap.size (w1.heap.size + 1 + 1) _ (.inr (.inl rfl)) a1 _ need W hmsg).mono (by rintro e w' ⟨rfl, rfl⟩; exact ⟨rfl, World.grownBy.refl _ _⟩)))
  clear hsite hmsg h9 h14 hW HK
  refine HC.out.mono ?_
  rintro e w2 ⟨rfl, hg⟩
  have HB : Hid (Below w1.heap.size w1 w2) := hb.grown hg hb.size (by intro k hk; cases hk; exact Nat.le_refl _)
  clear hg hb HC
  have e1 : outc true false 0 need = 0 := by simp [outc]
  rw [e1]
  go_wp2
  go_ret
  exact ⟨rfl, HB.out⟩

set_option maxHeartbeats 2000000 in
set_option maxRecDepth 100000 in
theorem law_no_o (a0 a1 : Int) (app ans rd : Bool) (need clock self : Int) (a9 : Option Addr) (n9 c9 : Nat) (a10 : Option Addr) (n10 c10 : Nat) (w : World) (hn9 : n9 ≤ 1024) (hn10 : n10 ≤ 1024) (hs0 : 0 ≤ self) (hs1 : self ≤ 255)
    (hnd : need ≤ 9223372036854775807)
    (hk : ∀ w, Calls Yba.prog 7 #[.int .u8 a0] w fun e w' => e = .returned (.string { data := #[111, 116, 104, 101, 114] }) ∧ w' = w) :
    Calls Yba.prog 3 #[.int .u8 a0, .int .i64 a1, .bool app, .bool ans, .bool rd, .int .i64 need, .int .i64 clock, .bool false, .int .u8 self, .slice a9 n9 c9, .slice a10 n10 c10] w fun e w' => e = .returned (.bool true) ∧ Below w.heap.size w w' := by
  have d9 : decide ((1024 : Int) < (n9 : Int)) = false := by simp; omega
  have d10 : decide ((1024 : Int) < (n10 : Int)) = false := by simp; omega
  have HK := hide hk
  clear hk
  go_enter Yba.func3, Yba.ntmps3
  go_wp2_with (go_at_call 7; refine (HK.out _).mono ?_; rintro e w1 ⟨rfl, rfl⟩)
  generalize hW : World.alloc _ (Obj.cells #[Value.string _, _, _, _, _] 57) = W
  have hb : Below w1.heap.size w1 W := by
    subst hW
    exact (((Below.refl w1.heap.size w1).alloc (Nat.le_refl _) _).alloc (by simp) _).alloc (by simp; omega) _
  have hsite : Site W w1.heap.size app ans rd := by
    subst hW
    exact ⟨cell_alloc_old (cell_alloc_old (cell_at rfl rfl)), cell_alloc_old (cell_alloc_old (cell_at rfl rfl)), cell_alloc_old (cell_alloc_old (cell_at rfl rfl)), cell_alloc_old (cell_alloc_old (cell_at rfl rfl)), cell_alloc_old (cell_alloc_old (cell_at rfl rfl)), cell_alloc_old (cell_alloc_old (cell_at rfl rfl)), fun o => frozen_past (by simp; omega) (frozen_past (by simp) (frozen_at rfl))⟩
  have hmsg : Msg W (w1.heap.size + 1 + 1) { data := #[111, 116, 104, 101, 114] } a1 (.agg #[.int .i64 7]) need := by
    subst hW
    exact ⟨cell_at (by simp) rfl, cell_at (by simp) rfl, cell_at (by simp) rfl, cell_at (by simp) rfl⟩
  have h9 : W.cell? ⟨w1.heap.size + 1, 9, none⟩ = some (.iface 25 (.pointer (some ⟨w1.heap.size, 0, none⟩))) := by
    subst hW
    exact cell_alloc_old (cell_at (by simp) rfl)
  have h14 : W.cell? ⟨w1.heap.size + 1, 14, none⟩ = some (.pointer none) := by
    subst hW
    exact cell_alloc_old (cell_at (by simp) rfl)
  have hMS : some (w1.heap.size + 1 + 1) ≠ some w1.heap.size := by simp; omega
  have HC := hide (hold_plain (w1.heap.size + 1) w1.heap.size (w1.heap.size + 1 + 1) _ (.inr (.inr (.inr (.inr rfl)))) true a1 _ need W h9 hmsg hMS ((takeable_d w1.heap.size (w1.heap.size + 1 + 1) _ (.inr (.inr rfl)) a1 _ need W hmsg).mono (by rintro e w' ⟨rfl, rfl⟩; exact ⟨rfl, World.grownBy.refl _ _⟩)))
  clear hsite hmsg h9 h14 hW HK
  refine HC.out.mono ?_
  rintro e w2 ⟨rfl, hg⟩
  have HB : Hid (Below w1.heap.size w1 w2) := hb.grown hg hb.size (by intro k hk; cases hk; exact Nat.le_refl _)
  clear hg hb HC
  have e1 : outc true false 0 need = 0 := by simp [outc]
  rw [e1]
  go_wp2
  go_ret
  exact ⟨rfl, HB.out⟩

end Go.Proofs.Ybulkbacs.lawS2566BOutcome
