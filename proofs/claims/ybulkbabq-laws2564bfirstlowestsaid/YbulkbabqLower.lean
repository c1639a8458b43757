import Derived.Test.YbulkbabqCmpQ
namespace Go.Proofs.Ybulkbabq
open Go.ChangeShapes Go.WideShapes Go.ChangeAt Go.RowKit
set_option linter.unusedVariables false

theorem IntAt.dn {w : World} {B p : Nat} {N : Int} (h : IntAt w B p N) (n : Nat) : IntAt (w.drewN n) B p N := by
  obtain ⟨v, m⟩ := h
  exact ⟨v, m.eqv ⟨rfl, rfl, rfl, rfl⟩⟩
theorem icmp_of (r : Int) (B p q : Nat) (X Y : Int) (w : World) (hx : IntAt w B p X) (hy : IntAt w B q Y) (he : p = q → X = Y) (hr : sgn X Y = r) :
    Calls Yba.prog 14 #[.pointer (some ⟨p, 0, none⟩), .pointer (some ⟨q, 0, none⟩)] w fun e w' => e = .returned (.int .i64 r) ∧ ∃ m, w' = w.drewN m := by
  subst hr
  exact icmp_anyQ B p q X Y w hx hy he

def blower (X Y : Int) (a b : Bool) : Bool := decide (X < Y) || (decide (X = Y) && (a && !b))
def bequal (X Y : Int) (a b : Bool) : Bool := decide (X = Y) && (a == b)

set_option maxHeartbeats 1000000 in
set_option maxRecDepth 100000 in
theorem lower_r (r : Int) (res : Bool) (B n ca co a0 o0 i j p q : Nat) (X Y : Int) (a b : Bool) (w : World) (hi : i < n) (hj : j < n) (hn : n ≤ 256)
    (k0 : w.cell? ⟨a0, i, none⟩ = some (.pointer (some ⟨p, 0, none⟩))) (k1 : w.cell? ⟨a0, j, none⟩ = some (.pointer (some ⟨q, 0, none⟩))) (k2 : w.cell? ⟨o0, i, none⟩ = some (.bool a)) (k3 : w.cell? ⟨o0, j, none⟩ = some (.bool b))
    (hx : IntAt w B p X) (hy : IntAt w B q Y) (he : p = q → X = Y) (hr : sgn X Y = r) (hc : (r = -1 ∧ res = true) ∨ (r = 1 ∧ res = false) ∨ (r = 0 ∧ res = (a && !b))) :
    Calls Yba.prog 7 #[.slice (some ⟨a0, 0, none⟩) n ca, .slice (some ⟨o0, 0, none⟩) n co, .int .i64 i, .int .i64 j] w fun e w' => e = .returned (.bool res) ∧ ∃ m, w' = w.drewN m := by
  have HM := hide (And.intro hx (And.intro hy (And.intro he hr)))
  clear hx hy he hr
  go_enter Yba.func7, Yba.ntmps7
  go_wp2_with fail
  go_quiet (first | (go_at_call 14; refine Calls.quiet_of (icmp_of r B p q X Y _ (HM.out.1.dn _) (HM.out.2.1.dn _) HM.out.2.2.1 HM.out.2.2.2)))
  clear HM
  rcases hc with ⟨rfl, rfl⟩ | ⟨rfl, rfl⟩ | ⟨rfl, rfl⟩
  · go_wp2
    go_ret
    exact ⟨rfl, _, rfl⟩
  · go_wp2
    go_ret
    exact ⟨rfl, _, rfl⟩
  · cases a <;> cases b
    all_goals
      go_wp2
      go_ret
      exact ⟨rfl, _, rfl⟩

theorem lower_any (B n ca co a0 o0 i j p q : Nat) (X Y : Int) (a b : Bool) (w : World) (hi : i < n) (hj : j < n) (hn : n ≤ 256)
    (k0 : w.cell? ⟨a0, i, none⟩ = some (.pointer (some ⟨p, 0, none⟩))) (k1 : w.cell? ⟨a0, j, none⟩ = some (.pointer (some ⟨q, 0, none⟩))) (k2 : w.cell? ⟨o0, i, none⟩ = some (.bool a)) (k3 : w.cell? ⟨o0, j, none⟩ = some (.bool b))
    (hx : IntAt w B p X) (hy : IntAt w B q Y) (he : p = q → X = Y) :
    Calls Yba.prog 7 #[.slice (some ⟨a0, 0, none⟩) n ca, .slice (some ⟨o0, 0, none⟩) n co, .int .i64 i, .int .i64 j] w fun e w' => e = .returned (.bool (blower X Y a b)) ∧ ∃ m, w' = w.drewN m := by
  refine lower_r (sgn X Y) (blower X Y a b) B n ca co a0 o0 i j p q X Y a b w hi hj hn k0 k1 k2 k3 hx hy he rfl ?_
  unfold sgn blower
  rcases Int.lt_trichotomy X Y with h | h | h
  · left; rw [if_pos h, decide_eq_true h]; exact ⟨rfl, rfl⟩
  · right; right; subst h; simp
  · right; left; rw [if_neg (by omega), if_pos h, decide_eq_false (by omega), decide_eq_false (show ¬ X = Y by omega)]; exact ⟨rfl, rfl⟩

set_option maxHeartbeats 1000000 in
set_option maxRecDepth 100000 in
theorem equal_r (z : Bool) (r : Int) (B n ca co a0 o0 i j p q : Nat) (X Y : Int) (a b : Bool) (w : World) (hi : i < n) (hj : j < n) (hn : n ≤ 256)
    (k0 : w.cell? ⟨a0, i, none⟩ = some (.pointer (some ⟨p, 0, none⟩))) (k1 : w.cell? ⟨a0, j, none⟩ = some (.pointer (some ⟨q, 0, none⟩))) (k2 : w.cell? ⟨o0, i, none⟩ = some (.bool a)) (k3 : w.cell? ⟨o0, j, none⟩ = some (.bool b))
    (hx : IntAt w B p X) (hy : IntAt w B q Y) (he : p = q → X = Y) (hr : sgn X Y = r) (hz : (r == 0) = z) :
    Calls Yba.prog 8 #[.slice (some ⟨a0, 0, none⟩) n ca, .slice (some ⟨o0, 0, none⟩) n co, .int .i64 i, .int .i64 j] w fun e w' => e = .returned (.bool (z && (a == b))) ∧ ∃ m, w' = w.drewN m := by
  have HM := hide (And.intro hx (And.intro hy (And.intro he hr)))
  clear hx hy he hr
  cases z with
  | true =>
    go_enter Yba.func8, Yba.ntmps8
    go_wp2_with fail
    go_quiet (first | (go_at_call 14; refine Calls.quiet_of (icmp_of r B p q X Y _ (HM.out.1.dn _) (HM.out.2.1.dn _) HM.out.2.2.1 HM.out.2.2.2)))
    go_wp2
    go_ret
    exact ⟨rfl, _, rfl⟩
  | false =>
    go_enter Yba.func8, Yba.ntmps8
    go_wp2_with fail
    go_quiet (first | (go_at_call 14; refine Calls.quiet_of (icmp_of r B p q X Y _ (HM.out.1.dn _) (HM.out.2.1.dn _) HM.out.2.2.1 HM.out.2.2.2)))
    go_wp2
    go_ret
    exact ⟨rfl, _, rfl⟩

theorem equal_any (B n ca co a0 o0 i j p q : Nat) (X Y : Int) (a b : Bool) (w : World) (hi : i < n) (hj : j < n) (hn : n ≤ 256)
    (k0 : w.cell? ⟨a0, i, none⟩ = some (.pointer (some ⟨p, 0, none⟩))) (k1 : w.cell? ⟨a0, j, none⟩ = some (.pointer (some ⟨q, 0, none⟩))) (k2 : w.cell? ⟨o0, i, none⟩ = some (.bool a)) (k3 : w.cell? ⟨o0, j, none⟩ = some (.bool b))
    (hx : IntAt w B p X) (hy : IntAt w B q Y) (he : p = q → X = Y) :
    Calls Yba.prog 8 #[.slice (some ⟨a0, 0, none⟩) n ca, .slice (some ⟨o0, 0, none⟩) n co, .int .i64 i, .int .i64 j] w fun e w' => e = .returned (.bool (bequal X Y a b)) ∧ ∃ m, w' = w.drewN m := by
  refine equal_r (decide (X = Y)) (sgn X Y) B n ca co a0 o0 i j p q X Y a b w hi hj hn k0 k1 k2 k3 hx hy he rfl ?_
  unfold sgn
  rcases Int.lt_trichotomy X Y with h | h | h
  · rw [if_pos h, decide_eq_false (by omega)]; rfl
  · subst h; simp
  · rw [if_neg (by omega), if_pos h, decide_eq_false (by omega)]; rfl
end Go.Proofs.Ybulkbabq
