import Derived.Test.YbulkbacsSite
import Derived.Deep.RegionHeld3
namespace Go.Proofs.Ybulkbacs
open Go.ChangeShapes Go.WideShapes Go.ChangeAt Go.RowKit

def kU : ByteArray := { data := #[117, 112, 100, 97, 116, 101] }
def kQ : ByteArray := { data := #[102, 101, 116, 99, 104, 45, 114, 101, 113, 117, 101, 115, 116] }
def kA : ByteArray := { data := #[102, 101, 116, 99, 104, 45, 97, 110, 115, 119, 101, 114] }

/-- The message's block. -/
structure Msg (w : World) (M : Nat) (kd : ByteArray) (fr : Int) (x : Value) (need : Int) : Prop where
  m0 : w.cell? ⟨M, 0, none⟩ = some (.string kd)
  m1 : w.cell? ⟨M, 1, none⟩ = some (.int .i64 fr)
  m2 : w.cell? ⟨M, 2, none⟩ = some (.iface 53 x)
  m4 : w.cell? ⟨M, 4, none⟩ = some (.int .i64 need)

theorem Site.drawn {w : World} {S : Nat} {app ans rd : Bool} (h : Site w S app ans rd) (n : Nat) : Site (w.drewN n) S app ans rd := ⟨h.c0, h.c1, h.c2, h.c3, h.c4, h.c5, h.fz⟩
theorem grown_drawn {w w' : World} {r : Option Nat} {n : Nat} (h : (w.drewN n).grownBy w' r) : w.grownBy w' r := ⟨h.os, h.tape, h.output, h.size, h.block⟩

theorem ahead_u (S : Nat) (w : World) : Sem.run Yba.prog (nilAhead 257 25 (.pointer (some ⟨S, 0, none⟩)) "Applicable") w = .ok (some false) w := by kernel_rfl
theorem ahead_q (S : Nat) (w : World) : Sem.run Yba.prog (nilAhead 257 25 (.pointer (some ⟨S, 0, none⟩)) "Answerable") w = .ok (some false) w := by kernel_rfl
theorem ahead_a (S : Nat) (w : World) : Sem.run Yba.prog (nilAhead 257 25 (.pointer (some ⟨S, 0, none⟩)) "Readable") w = .ok (some false) w := by kernel_rfl

set_option maxHeartbeats 1000000 in
set_option maxRecDepth 100000 in
theorem takeable_u (S M : Nat) (app ans rd : Bool) (fr : Int) (x : Value) (need : Int) (w : World) (hs : Site w S app ans rd) (hm : Msg w M { data := #[117, 112, 100, 97, 116, 101] } fr x need) (hMS : some M ≠ some S) :
    Calls Yba.prog 14 #[.pointer (some ⟨M, 0, none⟩), .iface 25 (.pointer (some ⟨S, 0, none⟩))] w fun e w' => e = .returned (.bool app) ∧ w.grownBy w' (some S) := by
  obtain ⟨m0, m1, m2, m4⟩ := hm
  have HS := hide hs
  have na := ahead_u S
  clear hs
  go_enter Yba.func14, Yba.ntmps14
  go_wp2
  go_region_held3 (fun w' => w'.cell? ⟨M, 1, none⟩ = some (.int .i64 fr) ∧ w'.cell? ⟨M, 2, none⟩ = some (.iface 53 x)) (first | (simp [go_sem, *]; done) | (exact ⟨World.grownBy.cell ‹_› (by exact m1) hMS, World.grownBy.cell ‹_› (by exact m2) hMS⟩))
    (first
      | (go_at_call 33; refine (applicable S app ans rd fr x _ (by exact HS.out.drawn 1)).mono ?_; rintro e w' ⟨rfl, hg⟩))
  have HG := hide (grown_drawn (n := 1) hg)
  clear hg
  go_wp2
  go_ret
  exact ⟨rfl, HG.out⟩

set_option maxHeartbeats 1000000 in
set_option maxRecDepth 100000 in
theorem takeable_q (S M : Nat) (app ans rd : Bool) (fr : Int) (x : Value) (need : Int) (w : World) (hs : Site w S app ans rd) (hm : Msg w M { data := #[102, 101, 116, 99, 104, 45, 114, 101, 113, 117, 101, 115, 116] } fr x need) (hMS : some M ≠ some S) :
    Calls Yba.prog 14 #[.pointer (some ⟨M, 0, none⟩), .iface 25 (.pointer (some ⟨S, 0, none⟩))] w fun e w' => e = .returned (.bool ans) ∧ w.grownBy w' (some S) := by
  obtain ⟨m0, m1, m2, m4⟩ := hm
  have HS := hide hs
  have na := ahead_q S
  clear hs
  go_enter Yba.func14, Yba.ntmps14
  go_wp2
  go_region_held3 (fun w' => w'.cell? ⟨M, 2, none⟩ = some (.iface 53 x)) (first | (simp [go_sem, *]; done) | (exact World.grownBy.cell ‹_› (by exact m2) hMS))
    (first
      | (go_at_call 32; refine (answerable S app ans rd x _ (by exact HS.out.drawn 1)).mono ?_; rintro e w' ⟨rfl, hg⟩))
  have HG := hide (grown_drawn (n := 1) hg)
  clear hg
  go_wp2
  go_ret
  exact ⟨rfl, HG.out⟩

set_option maxHeartbeats 1000000 in
set_option maxRecDepth 100000 in
theorem takeable_a (S M : Nat) (app ans rd : Bool) (fr : Int) (x : Value) (need : Int) (w : World) (hs : Site w S app ans rd) (hm : Msg w M { data := #[102, 101, 116, 99, 104, 45, 97, 110, 115, 119, 101, 114] } fr x need) (hMS : some M ≠ some S) :
    Calls Yba.prog 14 #[.pointer (some ⟨M, 0, none⟩), .iface 25 (.pointer (some ⟨S, 0, none⟩))] w fun e w' => e = .returned (.bool rd) ∧ w.grownBy w' (some S) := by
  obtain ⟨m0, m1, m2, m4⟩ := hm
  have HS := hide hs
  have na := ahead_a S
  clear hs
  go_enter Yba.func14, Yba.ntmps14
  go_wp2
  go_region_held3 (fun w' => w'.cell? ⟨M, 2, none⟩ = some (.iface 53 x)) (first | (simp [go_sem, *]; done) | (exact World.grownBy.cell ‹_› (by exact m2) hMS))
    (first
      | (go_at_call 35; refine (readable S app ans rd x _ (by exact HS.out.drawn 1)).mono ?_; rintro e w' ⟨rfl, hg⟩))
  have HG := hide (grown_drawn (n := 1) hg)
  clear hg
  go_wp2
  go_ret
  exact ⟨rfl, HG.out⟩

/-- A message of another kind: the protocol has no say. -/
theorem takeable_d (S M : Nat) (kd : ByteArray) (hk : kd = { data := #[99, 108, 111, 99, 107, 45, 114, 101, 113, 117, 101, 115, 116] } ∨ kd = { data := #[99, 108, 111, 99, 107] } ∨ kd = { data := #[111, 116, 104, 101, 114] }) (fr : Int) (x : Value) (need : Int) (w : World) (hm : Msg w M kd fr x need) :
    Calls Yba.prog 14 #[.pointer (some ⟨M, 0, none⟩), .iface 25 (.pointer (some ⟨S, 0, none⟩))] w fun e w' => e = .returned (.bool true) ∧ w' = w := by
  obtain ⟨m0, m1, m2, m4⟩ := hm
  rcases hk with rfl | rfl | rfl
  all_goals
    go_enter Yba.func14, Yba.ntmps14
    go_wp2
    go_ret
    exact ⟨rfl, rfl⟩

/-- The stable point over the first k clocks heard. -/
def ph (sf : Int) (zs : List Int) (t : Int) : Nat → Int
  | 0 => t
  | k + 1 => if (k : Int) = sf then ph sf zs t k else if zs.getD k 0 < ph sf zs t k then zs.getD k 0 else ph sf zs t k
/-- .. and over the first k arrived. -/
def pa (zs : List Int) (t : Int) : Nat → Int
  | 0 => t
  | k + 1 => if wrap64 (zs.getD k 0 - 1) < pa zs t k then wrap64 (zs.getD k 0 - 1) else pa zs t k

/-- What a slice of int64 leads to. -/
def Has (w : World) (a : Option Addr) (n : Nat) (zs : List Int) : Prop := ∀ j, j < n → ∃ b off, a = some ⟨b, off, none⟩ ∧ w.cell? ⟨b, off + j, none⟩ = some (.int .i64 (zs.getD j 0))

theorem point_nil (R : Nat) (w : World) (h8 : w.cell? ⟨R, 14, none⟩ = some (.pointer none)) :
    Calls Yba.prog 16 #[.pointer (some ⟨R, 0, none⟩)] w fun e w' => e = .returned (.int .i64 9223372036854775807) ∧ w' = w := by
  go_enter Yba.func16, Yba.ntmps16
  go_wp2

  go_ret
  exact ⟨rfl, rfl⟩

set_option maxHeartbeats 1000000 in
set_option maxRecDepth 100000 in
theorem point_some (R P : Nat) (clock sf : Int) (ah aa : Option Addr) (nh ch na ca : Nat) (hs vs : List Int) (w : World)
    (h8 : w.cell? ⟨R, 14, none⟩ = some (.pointer (some ⟨P, 0, none⟩))) (h6 : w.cell? ⟨R, 12, none⟩ = some (.int .i64 clock))
    (p0 : w.cell? ⟨P, 0, none⟩ = some (.int .i64 sf)) (p2 : w.cell? ⟨P, 2, none⟩ = some (.slice ah nh ch)) (p4 : w.cell? ⟨P, 4, none⟩ = some (.slice aa na ca))
    (hh : Has w ah nh hs) (ha : Has w aa na vs) (hnh : nh ≤ 1024) (hna : na ≤ 1024) :
    Calls Yba.prog 16 #[.pointer (some ⟨R, 0, none⟩)] w fun e w' => e = .returned (.int .i64 (pa vs (ph sf hs clock nh) na)) ∧ w' = w := by
  have HH := hide hh
  have HA := hide ha
  clear hh ha
  go_enter Yba.func16, Yba.ntmps16
  go_wp2

  go_loop [24, 4] (fun i t => ∃ k : Nat, k ≤ nh ∧ i = .int .i64 k ∧ t = .int .i64 (ph sf hs clock k)) (fun i _ => nh - (intOf i).toNat)
  case atStart => exact ⟨0, Nat.zero_le _, rfl, rfl⟩
  case round =>
    obtain ⟨k, hk, rfl, rfl⟩ := hrel
    by_cases hlt : k < nh
    · obtain ⟨b, off, rfl, hc⟩ := HH.out k hlt
      have HP : Hid (ph sf hs clock (k + 1) = if (k : Int) = sf then ph sf hs clock k else if hs.getD k 0 < ph sf hs clock k then hs.getD k 0 else ph sf hs clock k) := rfl
      generalize hs.getD k 0 = z at *
      generalize ph sf hs clock k = t at *
      by_cases hks : (k : Int) = sf
      · have e1 : ((k : Int) != sf) = false := by simp [hks]
        have e2 := HP.out
        rw [if_pos hks] at e2
        have HE := hide e2
        clear e2 hks
        go_wp2
        go_round
        case rel => exact ⟨k + 1, by omega, by go_num, by rw [HE.out]⟩
        case measure => simp [intOf]; omega
      · have e1 : ((k : Int) != sf) = true := by simp [hks]
        have e2 := HP.out
        rw [if_neg hks] at e2
        have HE := hide e2
        clear e2 hks
        go_wp2
        go_round
        case rel => exact ⟨k + 1, by omega, by go_num, by rw [HE.out]⟩
        case measure => simp [intOf]; omega
    · have hkn : k = nh := by omega
      subst hkn
      generalize ht0 : ph sf hs clock k = t0 at *
      have HT0 := hide ht0
      clear HH ht0
      go_wp2
      go_loop [44, 4] (fun i t => ∃ j : Nat, j ≤ na ∧ i = .int .i64 j ∧ t = .int .i64 (pa vs t0 j)) (fun i _ => na - (intOf i).toNat)
      case atStart => exact ⟨0, Nat.zero_le _, rfl, rfl⟩
      case round =>
        obtain ⟨j, hj, rfl, rfl⟩ := hrel
        by_cases hlt : j < na
        · obtain ⟨b, off, rfl, hc⟩ := HA.out j hlt
          have HP : Hid (pa vs t0 (j + 1) = if wrap64 (vs.getD j 0 - 1) < pa vs t0 j then wrap64 (vs.getD j 0 - 1) else pa vs t0 j) := rfl
          generalize vs.getD j 0 = z at *
          generalize pa vs t0 j = t at *
          go_wp2
          go_round
          case rel => exact ⟨j + 1, by omega, by go_num, by rw [HP.out]⟩
          case measure => simp [intOf]; omega
        · have hjn : j = na := by omega
          subst hjn
          go_wp2
          go_ret
          exact ⟨by rw [HT0.out]; rfl, rfl⟩

/-! ### hold -/
/-- What the law itself reckons: the outcome. -/
def outc (tk : Bool) (isQ : Bool) (p need : Int) : Int := if tk = false then 1 else if isQ = true ∧ p < need then 2 else 0

set_option maxHeartbeats 1000000 in
set_option maxRecDepth 100000 in
/-- A message whose kind is no fetch request. -/
theorem hold_plain (R S M : Nat) (kd : ByteArray) (hk : kd = { data := #[117, 112, 100, 97, 116, 101] } ∨ kd = { data := #[102, 101, 116, 99, 104, 45, 97, 110, 115, 119, 101, 114] } ∨ kd = { data := #[99, 108, 111, 99, 107, 45, 114, 101, 113, 117, 101, 115, 116] } ∨ kd = { data := #[99, 108, 111, 99, 107] } ∨ kd = { data := #[111, 116, 104, 101, 114] })
    (tk : Bool) (fr : Int) (x : Value) (need : Int) (w : World) (h3 : w.cell? ⟨R, 9, none⟩ = some (.iface 25 (.pointer (some ⟨S, 0, none⟩)))) (hm : Msg w M kd fr x need) (hMS : some M ≠ some S)
    (ht : Calls Yba.prog 14 #[.pointer (some ⟨M, 0, none⟩), .iface 25 (.pointer (some ⟨S, 0, none⟩))] w fun e w' => e = .returned (.bool tk) ∧ w.grownBy w' (some S)) :
    Calls Yba.prog 9 #[.pointer (some ⟨R, 0, none⟩), .pointer (some ⟨M, 0, none⟩)] w fun e w' => e = .returned (.int .i64 (outc tk false 0 need)) ∧ w.grownBy w' (some S) := by
  obtain ⟨m0, m1, m2, m4⟩ := hm
  have HT := hide ht
  clear ht
  go_enter Yba.func9, Yba.ntmps9
  go_wp2_with fail
  refine HT.out.mono ?_
  rintro e w1 ⟨rfl, hg⟩
  have HG := hide hg
  have n0 := hg.cell m0 hMS
  clear hg HT m0 m1 m2 m4
  cases tk with
  | false =>
    go_wp2
    go_ret
    exact ⟨rfl, HG.out⟩
  | true =>
    rcases hk with rfl | rfl | rfl | rfl | rfl
    all_goals
      go_wp2
      go_ret
      exact ⟨rfl, HG.out⟩

set_option maxHeartbeats 1000000 in
set_option maxRecDepth 100000 in
/-- A fetch request. -/
theorem hold_q (R S M : Nat) (tk : Bool) (fr : Int) (x : Value) (need p : Int) (w : World) (h3 : w.cell? ⟨R, 9, none⟩ = some (.iface 25 (.pointer (some ⟨S, 0, none⟩))))
    (hm : Msg w M { data := #[102, 101, 116, 99, 104, 45, 114, 101, 113, 117, 101, 115, 116] } fr x need) (hMS : some M ≠ some S)
    (ht : Calls Yba.prog 14 #[.pointer (some ⟨M, 0, none⟩), .iface 25 (.pointer (some ⟨S, 0, none⟩))] w fun e w' => e = .returned (.bool tk) ∧ w.grownBy w' (some S))
    (hp : ∀ w1, w.grownBy w1 (some S) → Calls Yba.prog 16 #[.pointer (some ⟨R, 0, none⟩)] w1 fun e w' => e = .returned (.int .i64 p) ∧ w' = w1) :
    Calls Yba.prog 9 #[.pointer (some ⟨R, 0, none⟩), .pointer (some ⟨M, 0, none⟩)] w fun e w' => e = .returned (.int .i64 (outc tk true p need)) ∧ w.grownBy w' (some S) := by
  obtain ⟨m0, m1, m2, m4⟩ := hm
  have HT := hide ht
  have HP := hide hp
  clear ht hp
  go_enter Yba.func9, Yba.ntmps9
  go_wp2_with fail
  refine HT.out.mono ?_
  rintro e w1 ⟨rfl, hg⟩
  have HG := hide hg
  have n0 := hg.cell m0 hMS
  have n4 := hg.cell m4 hMS
  clear hg HT m0 m1 m2 m4
  cases tk with
  | false =>
    go_wp2
    go_ret
    exact ⟨rfl, HG.out⟩
  | true =>
    by_cases hpn : p < need
    · have d1 : decide (need ≤ p) = false := by simp; omega
      have HO : Hid (outc true true p need = 2) := by unfold Hid outc; simp [hpn]
      go_wp2_with (first | (go_at_call 16; refine (HP.out w1 HG.out).mono ?_; rintro e w2 ⟨rfl, rfl⟩) | (go_at_call 15; go_in))
      go_ret
      exact ⟨by rw [HO.out]; rfl, HG.out⟩
    · have d1 : decide (need ≤ p) = true := by simp; omega
      have HO : Hid (outc true true p need = 0) := by unfold Hid outc; simp [hpn]
      go_wp2_with (first | (go_at_call 16; refine (HP.out w1 HG.out).mono ?_; rintro e w2 ⟨rfl, rfl⟩) | (go_at_call 15; go_in))
      go_ret
      exact ⟨by rw [HO.out]; rfl, HG.out⟩
end Go.Proofs.Ybulkbacs
