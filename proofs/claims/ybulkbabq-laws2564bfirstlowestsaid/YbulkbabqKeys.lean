import Derived.Test.YbulkbabqTighter
import Derived.Maps.OwnSet
import Derived.WideKeyArr
import Derived.Laws.IdiomCopy
namespace Go.Proofs.Ybulkbabq
open Go.ChangeShapes Go.WideShapes Go.ChangeAt Go.RowKit Go.WideMaps
set_option linter.unusedVariables false
open Go.Maps (Keyed)
theorem arrKey : ArrKey Yba.prog 45 3 2 := ⟨Yba.underlying45, by kernel_rfl, by kernel_rfl, by kernel_rfl⟩
theorem law45 : Keyed Yba.prog 45 := Keyed.of_law arrKey.law
theorem zeroE (w : World) : (zeroValue 3).run Yba.prog w = .ok (.int .i64 0) w := by kernel_rfl
theorem kt45 : Yba.prog.keyType 45 = true := by kernel_rfl
theorem cells3 : Yba.prog.cellsOf 3 = 1 := by kernel_rfl
theorem cells45 : Yba.prog.cellsOf 45 = 2 := by kernel_rfl
theorem lits_one (d : Nat) (a : Int) (ha : (Lit.int .i64 a).wf = true) : Yba.prog.keyLits (d + 1) 3 [.int .i64 a] = some [.int .i64 a] := by
  simp [Program.keyLits, Yba.underlying3, ha]
theorem lits_two (d : Nat) (a b : Int) (ha : (Lit.int .i64 a).wf = true) (hb : (Lit.int .i64 b).wf = true) : Yba.prog.keyLits (d + 1 + 1) 45 [.int .i64 a, .int .i64 b] = some [.int .i64 a, .int .i64 b] := by
  simp [Program.keyLits, Yba.underlying45, Yba.underlying3, cells3, cells45, List.range, List.range.loop, ha, hb]
/-- What a pair of numbers reads as, as a key. -/
def KL (a b : Int) : Lit := Lit.string (keyBytes [.int .i64 a, .int .i64 b])
theorem key_is (a b : Int) (ha : (Lit.int .i64 a).wf = true) (hb : (Lit.int .i64 b).wf = true) : keyOf Yba.prog 45 (.agg #[.int .i64 a, .int .i64 b]) = some (KL a b) := by
  have hf : Value.formed Yba.prog 45 (Value.agg #[Value.int IntKind.i64 a, Value.int IntKind.i64 b]) = true := by
    simp [Value.formed, Yba.underlying45, cells45]
  have hl : Yba.prog.keyLits 94 45 (Value.agg #[Value.int IntKind.i64 a, Value.int IntKind.i64 b]).cells.toList = some [.int .i64 a, .int .i64 b] := lits_two 92 a b ha hb
  simp [keyOf, Yba.underlying45, kt45, hf, hl, KL]
theorem KL_inj {a b c d : Int} (ha : (Lit.int .i64 a).wf = true) (hb : (Lit.int .i64 b).wf = true) (hc : (Lit.int .i64 c).wf = true) (hd : (Lit.int .i64 d).wf = true) (h : KL a b = KL c d) : a = c ∧ b = d := by
  have := arrKey.law.inj (key_is a b ha hb) (h ▸ key_is c d hc hd)
  simpa using this
theorem KL_key {a b : Int} (ha : (Lit.int .i64 a).wf = true) (hb : (Lit.int .i64 b).wf = true) : WideAt.IsKeyLit (KL a b) := law45.key (key_is a b ha hb)
theorem sz24 : (Yba.prog.info? 24).map (·.size) = some 5 := by kernel_rfl
/-- 'copy' of elements of five cells. -/
theorem run_copy5 (w : World) (dT sT ty elem : TypeId) (b o dLen dCap : Nat) (a : Addr) (sLen sCap : Nat) (cs : List Value)
    (hu : Yba.prog.underlying dT = some (.slice elem)) (hs : (Yba.prog.info? elem).map (·.size) = some 5) (hn : cs.length = Nat.min sLen dLen * 5)
    (hsrc : ∀ j v, cs[j]? = some v → w.cell? (a.add j) = some v) (hc : ∀ j, j < cs.length → (w.cell? ⟨b, o + j, none⟩).isSome = true) (hf : ∀ j, j < cs.length → w.frozen? ⟨b, o + j, none⟩ = false) (h1 : ∀ v ∈ cs, v.oneCell' = true) :
    (Builtin.copy_ #[dT, sT] ty #[.slice (some ⟨b, o, none⟩) dLen dCap, .slice (some a) sLen sCap]).run Yba.prog w = .ok (goInt (Nat.min sLen dLen)) (w.setCells b o cs) := by
  have hl := run_loadCells_list (P := Yba.prog) w a cs hsrc
  have hst := run_storeCells_cells (P := Yba.prog) b o cs 0 w (by simpa using hc) (by simpa using hf) h1
  cases hq : Yba.prog.info? elem with
  | none => simp [hq] at hs
  | some i =>
    have hi : i.size = 5 := by simpa [hq] using hs
    simp [Builtin.copy_, run_underlying hu, Builtin.lenOf, Builtin.firstCells, sizeOf, typeInfo, hq, hi, ← hn, hl, hst]
end Go.Proofs.Ybulkbabq
