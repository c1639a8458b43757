import Derived.Test.YbulkbabqFmtProg
import Derived.Stop.CallBack
import Derived.Stop.IfaceNil
import GoSem.ClaimData
import Derived.WalkKit
import Derived.WalkSpells
import Derived.Handy
import Derived.Deep.QuietTactic
import Derived.BigQuiet
import Derived.Deep.RegionHeld3
namespace Go.Proofs.YbulkbabqFmt
open Go.RowKit Go.Extern.Stop Go.Stop Go.Extern

theorem call22 (args : Array Value) (w : World) : (callFunc 22 args).run Ybaf.prog w = ((FmtStop.errorf #[9, 79] #[40] args).run Ybaf.prog w).andThen fun v w' => .ok (.value v) w' :=
  run_callFunc_extern Ybaf.func22 (by kernel_rfl) (by kernel_rfl) (by kernel_rfl) (by kernel_rfl) args w
theorem call24 (args : Array Value) (w : World) : (callFunc 24 args).run Ybaf.prog w = ((FmtStop.sprintf #[9, 79] #[9] args).run Ybaf.prog w).andThen fun v w' => .ok (.value v) w' :=
  run_callFunc_extern Ybaf.func24 (by kernel_rfl) (by kernel_rfl) (by kernel_rfl) (by kernel_rfl) args w
theorem fguard (name : String) (w : World) : (FmtStop.guard name).run Ybaf.prog w = .ok () w := by kernel_rfl
-- "clock names host %q, which logs no event", 1 operand
theorem fmtA : FmtStop.printed? ⟨#[99, 108, 111, 99, 107, 32, 110, 97, 109, 101, 115, 32, 104, 111, 115, 116, 32, 37, 113, 44, 32, 119, 104, 105, 99, 104, 32, 108, 111, 103, 115, 32, 110, 111, 32, 101, 118, 101, 110, 116]⟩ 1 = some [(0, 113, false)] := by kernel_rfl
theorem fmtAr (w : World) : (FmtDoors.printed ⟨#[99, 108, 111, 99, 107, 32, 110, 97, 109, 101, 115, 32, 104, 111, 115, 116, 32, 37, 113, 44, 32, 119, 104, 105, 99, 104, 32, 108, 111, 103, 115, 32, 110, 111, 32, 101, 118, 101, 110, 116]⟩ 1).run Ybaf.prog w = .ok [(0, 113, false)] w := by kernel_rfl
def shape9 : List UInt8 := [12, 6, 0, 0, 0, 0, 0, 0, 0, 115, 116, 114, 105, 110, 103]
-- the other two formats
theorem fmtB : FmtStop.printed? ⟨#[99, 108, 111, 99, 107, 32, 110, 97, 109, 101, 115, 32, 101, 118, 101, 110, 116, 32, 37, 100, 32, 111, 102, 32, 104, 111, 115, 116, 32, 37, 113, 44, 32, 119, 104, 105, 99, 104, 32, 108, 111, 103, 115, 32, 37, 115]⟩ 3 = some [(0, 100, false), (1, 113, false), (2, 115, false)] := by kernel_rfl
theorem fmtBr (w : World) : (FmtDoors.printed ⟨#[99, 108, 111, 99, 107, 32, 110, 97, 109, 101, 115, 32, 101, 118, 101, 110, 116, 32, 37, 100, 32, 111, 102, 32, 104, 111, 115, 116, 32, 37, 113, 44, 32, 119, 104, 105, 99, 104, 32, 108, 111, 103, 115, 32, 37, 115]⟩ 3).run Ybaf.prog w = .ok [(0, 100, false), (1, 113, false), (2, 115, false)] w := by kernel_rfl
theorem fmtC : FmtStop.printed? ⟨#[37, 100, 32, 101, 118, 101, 110, 116, 115]⟩ 1 = some [(0, 100, false)] := by kernel_rfl
theorem fmtCr (w : World) : (FmtDoors.printed ⟨#[37, 100, 32, 101, 118, 101, 110, 116, 115]⟩ 1).run Ybaf.prog w = .ok [(0, 100, false)] w := by kernel_rfl
def shape3 : List UInt8 := [5, 3, 0, 0, 0, 0, 0, 0, 0, 105, 110, 116]
def shape29 : List UInt8 := [9, 6, 0, 0, 0, 0, 0, 0, 0, 117, 105, 110, 116, 54, 52]
theorem op9_113w (name : String) (x : ByteArray) (w : World) : (FmtStop.operand name true 113 false (.iface 9 (.string x))).run Ybaf.prog w = .ok (shape9, FmtStop.pack x.data.toList) w := by kernel_rfl
theorem op9_115w (name : String) (x : ByteArray) (w : World) : (FmtStop.operand name true 115 false (.iface 9 (.string x))).run Ybaf.prog w = .ok (shape9, FmtStop.pack x.data.toList) w := by kernel_rfl
theorem op29_100w (name : String) (x : Int) (w : World) : (FmtStop.operand name true 100 false (.iface 29 (.int .u64 x))).run Ybaf.prog w = .ok (shape29, Go.Extern.Stop.digits 8 (x % 2 ^ 64).toNat) w := by kernel_rfl
theorem op3_100 (name : String) (x : Int) (w : World) : (FmtStop.operand name false 100 false (.iface 3 (.int .i64 x))).run Ybaf.prog w = .ok (shape3, Go.Extern.Stop.digits 8 (x % 2 ^ 64).toNat) w := by kernel_rfl
theorem ptr108 (w : World) : (FmtStop.ptrTo "errors.errorString").run Ybaf.prog w = .ok 108 w := by kernel_rfl
theorem elem108 (w : World) : (elemOf 108).run Ybaf.prog w = .ok 110 w := by kernel_rfl
theorem isError108 (w : World) : (FmtDoors.textMethod 108 "Error").run Ybaf.prog w = .ok true w := by kernel_rfl

attribute [local go_sem] call22 call24 fguard fmtA fmtAr fmtB fmtBr fmtC fmtCr op9_113w op9_115w op29_100w op3_100 ptr108 elem108 isError108

set_option maxHeartbeats 1000000 in
set_option maxRecDepth 100000 in
theorem errorf_a (b : Nat) (s : ByteArray) (w : World) (hc : w.cell? ⟨b, 0, none⟩ = some (.iface 9 (.string s))) :
    Calls Ybaf.prog 17 #[.string ⟨#[99, 108, 111, 99, 107, 32, 110, 97, 109, 101, 115, 32, 104, 111, 115, 116, 32, 37, 113, 44, 32, 119, 104, 105, 99, 104, 32, 108, 111, 103, 115, 32, 110, 111, 32, 101, 118, 101, 110, 116]⟩, .slice (some ⟨b, 0, none⟩) 1 1] w
      fun e w' => (∃ a, e = .returned (.iface 108 (.pointer (some a)))) ∧ Below w.heap.size w w' := by
  go_enter Ybaf.func17, Ybaf.ntmps17
  go_wp2
  go_ret
  exact ⟨⟨_, rfl⟩, ((Below.refl _ w).alloc (Nat.le_refl _) _).drew⟩

set_option maxHeartbeats 1000000 in
set_option maxRecDepth 100000 in
theorem errorf_b (b : Nat) (c : Int) (s t : ByteArray) (w : World) (h0 : w.cell? ⟨b, 0, none⟩ = some (.iface 29 (.int .u64 c))) (h1 : w.cell? ⟨b, 1, none⟩ = some (.iface 9 (.string s))) (h2 : w.cell? ⟨b, 2, none⟩ = some (.iface 9 (.string t))) :
    Calls Ybaf.prog 17 #[.string ⟨#[99, 108, 111, 99, 107, 32, 110, 97, 109, 101, 115, 32, 101, 118, 101, 110, 116, 32, 37, 100, 32, 111, 102, 32, 104, 111, 115, 116, 32, 37, 113, 44, 32, 119, 104, 105, 99, 104, 32, 108, 111, 103, 115, 32, 37, 115]⟩, .slice (some ⟨b, 0, none⟩) 3 3] w
      fun e w' => (∃ a, e = .returned (.iface 108 (.pointer (some a)))) ∧ Below w.heap.size w w' := by
  go_enter Ybaf.func17, Ybaf.ntmps17
  go_wp2
  go_ret
  exact ⟨⟨_, rfl⟩, ((Below.refl _ w).alloc (Nat.le_refl _) _).drew⟩

set_option maxHeartbeats 1000000 in
set_option maxRecDepth 100000 in
theorem eventCount_any (n : Int) (w : World) : Calls Ybaf.prog 18 #[.int .i64 n] w fun e w' => (∃ s, e = .returned (.string s)) ∧ Below w.heap.size w w' := by
  cases h1 : (n == 1) with
  | true =>
    go_enter Ybaf.func18, Ybaf.ntmps18
    go_wp2
    go_ret
    exact ⟨⟨_, rfl⟩, Below.refl _ _⟩
  | false =>
    go_enter Ybaf.func18, Ybaf.ntmps18
    go_wp2

    go_ret
    exact ⟨⟨_, rfl⟩, ((Below.refl _ w).alloc (Nat.le_refl _) _).drew⟩
end Go.Proofs.YbulkbabqFmt
