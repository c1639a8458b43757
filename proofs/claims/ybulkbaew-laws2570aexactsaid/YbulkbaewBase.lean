import Derived.Test.YbulkbaewProg
import Derived.WalkKit
import Derived.ProofKit
import Derived.OpenShut
import Derived.Below
import Derived.Handy
import Derived.Deep.QuietTactic
import Derived.BigQuiet
import Derived.Lib.SliceRun
import Derived.Lib.AppendStr
import Derived.Laws.AppendOwnNone
import Derived.Laws.CopyOwn
import Derived.WalkSmall
import Derived.WalkSpells
import Derived.Deep.RegionHeld3
namespace Go.Proofs.Ybulkbaew
open Go.ChangeShapes Go.WideShapes Go.ChangeAt Go.RowKit
set_option linter.unusedVariables false

theorem hide {p : Prop} (h : p) : Hid p := h
theorem cell_lt' {w : World} {x : Addr} {v : Value} (h : w.cell? x = some v) : x.block < w.heap.size := by
  refine Classical.byContradiction fun hb => ?_
  have hn : w.heap[x.block]? = none := by simp; omega
  simp [World.cell?, hn] at h
theorem add_block (x : Addr) (j : Nat) : (x.add j).block = x.block := by
  simp only [Addr.add]
  split <;> rfl

theorem info5 : (Yba.prog.info? 5).map (fun i => (i.zero, i.size, i.bytes)) = some (some (.int .u8 0), 1, 1) := by kernel_rfl

/-- Bytes as cells. -/
def C (l : List UInt8) : List Value := l.map fun b => .int .u8 (b.toNat : Int)
theorem C_length (l : List UInt8) : (C l).length = l.length := by simp [C]
theorem C_append (l m : List UInt8) : C (l ++ m) = C l ++ C m := by simp [C]
theorem C_one (l : List UInt8) : ∀ u ∈ C l, u.oneCell' = true := by
  intro u hu
  simp only [C, List.mem_map] at hu
  obtain ⟨b, _, rfl⟩ := hu
  rfl
theorem C_at (l : List UInt8) (j : Nat) (hj : j < l.length) : (C l)[j]? = some (.int .u8 ((l.getD j 0).toNat : Int)) := by
  simp [C, hj]

/-- The value v is a slice that leads to the bytes l, below block B. -/
def Lies (B : Nat) (w : World) (v : Value) (l : List UInt8) : Prop :=
  (v = .slice none 0 0 ∧ l = []) ∨ ∃ x cap, v = .slice (some x) l.length cap ∧ (l = [] ∨ x.block < B) ∧ ∀ j u, (C l)[j]? = some u → w.cell? (x.add j) = some u

theorem Lies.later {B : Nat} {w w' : World} {v : Value} {l : List UInt8} (h : Lies B w v l) (hb : Below B w w') : Lies B w' v l := by
  rcases h with h | ⟨x, cap, hv, hB, hc⟩
  · exact .inl h
  · refine .inr ⟨x, cap, hv, hB, fun j u hj => ?_⟩
    rcases hB with rfl | hB
    · simp [C] at hj
    · exact (hb.cell (p := x.add j) (by rw [add_block]; exact hB)).trans (hc j u hj)
theorem Lies.mono {B B' : Nat} {w : World} {v : Value} {l : List UInt8} (h : Lies B w v l) (hb : B ≤ B') : Lies B' w v l := by
  rcases h with h | ⟨x, cap, hv, hB, hc⟩
  · exact .inl h
  · exact .inr ⟨x, cap, hv, hB.imp id (fun h => Nat.lt_of_lt_of_le h hb), hc⟩

/-- What the call owns lies there. -/
theorem lies_of_owns {w : World} {base n : Nat} {v : Value} {l : List UInt8} (h : w.ownsRow base 5 1 v n (C l)) : Lies w.heap.size w v l := by
  have hl : l.length = n := by simpa [C_length] using h.1
  rcases h.2 with ⟨rfl, rfl⟩ | ⟨g, cap, cur, rfl, hb, hh, _⟩
  · exact .inl ⟨rfl, List.eq_nil_of_length_eq_zero hl⟩
  · refine .inr ⟨⟨g, 0, none⟩, cap, by rw [hl], .inr ?_, h.cells (g := g) rfl⟩
    exact (h.lt g rfl).2

/-- Below B, and every block that is no row of bytes, is as it was. -/
structure Kept5 (B : Nat) (w w' : World) : Prop where
  bel : Below B w w'
  oth : ∀ k, k < w.heap.size → (∀ cs f, w.heap[k]? ≠ some (.cells cs 5 f)) → w'.heap[k]? = w.heap[k]?
theorem Kept5.refl (B : Nat) (w : World) : Kept5 B w w := ⟨Below.refl _ _, fun _ _ _ => rfl⟩
theorem Kept5.trans {B : Nat} {a b c : World} (h : Kept5 B a b) (k : Kept5 B b c) : Kept5 B a c :=
  ⟨h.bel.trans k.bel, fun i hi hn => by
    have e := h.oth i hi hn
    rw [k.oth i (Nat.lt_of_lt_of_le hi h.bel.size) (by rw [e]; exact hn), e]⟩
theorem Kept5.alloc {B : Nat} {a w : World} (h : Kept5 B a w) (hB : B ≤ w.heap.size) (o : Obj) : Kept5 B a (w.alloc o) :=
  h.trans ⟨(Below.refl _ _).alloc hB o, fun k hk _ => Below.heap_alloc _ _ _ hk⟩
/-- A step that writes the owned row alone. -/
theorem Kept5.own {B n : Nat} {w w' : World} {v : Value} {xs : List Value} (hown : w.ownsRow B 5 1 v n xs) (hg : w.grownBy w' v.ownBlock) (hB : B ≤ w.heap.size) : Kept5 B w w' := by
  refine ⟨(Below.refl _ _).grown hg hB (fun k hk => (hown.lt k hk).1), fun k hk hn => hg.block k hk fun e => ?_⟩
  rcases hown.2 with ⟨rfl, _⟩ | ⟨g, cap, cur, rfl, _, hh, _⟩
  · simp [Value.ownBlock] at e
  · simp [Value.ownBlock] at e
    subst e
    exact hn _ _ hh
theorem Kept5.cell {B : Nat} {w w' : World} (h : Kept5 B w w') {k o : Nat} {v : Value} (hn : ∀ cs f, w.heap[k]? ≠ some (.cells cs 5 f)) (hc : w.cell? ⟨k, o, none⟩ = some v) : w'.cell? ⟨k, o, none⟩ = some v := by
  rw [World.cell?_of_block (w := w) (a := ⟨k, o, none⟩) (h.oth k (cell_lt' hc) hn)]; exact hc

/-- 'append(own, xs...)', xs nil or not. -/
theorem wpList_append_bytes {w : World} {ops : Array Oper} {rest : List Oper} {o : Oper} {a : Act} {Q : Exit → Act → World → Prop} (hgd : o.guard = none) (s x : Operand)
    (ho : o.op = .call { callee := .builtin .append, args := #[s, x], argTypes := #[22, 22] })
    (base n D : Nat) (v u : Value) (xs : List Value) (l : List UInt8) (hs : a.eval s = v) (hown : w.ownsRow base 5 1 v n xs) (hx : a.eval x = u) (hl : Lies D w u l)
    (hlen : n + l.length ≤ 1000000) (hbase : base ≤ w.heap.size)
    (h : ∀ v' w', w'.ownsRow base 5 1 v' (n + l.length) (xs ++ C l) → Kept5 base w w' → wpList Yba.prog ops Q rest (a.put o.dst v') w') : wpList Yba.prog ops Q (o :: rest) a w := by
  obtain ⟨i, hi, hz0, hz1, hz2⟩ := info_parts info5
  rcases hl with ⟨rfl, rfl⟩ | ⟨ad, cap, rfl, _, hc⟩
  · refine wpList_append_own_none hgd s x 22 ho base 5 i 1 Yba.underlying22 hi v n xs hs hown hx (h v w (by simpa [C] using hown) (Kept5.refl _ _))
  · exact wpList_append_own w hgd s x 22 ho base 5 i (.int .u8 0) 1 1 Yba.underlying22 hi hz0 hz1 hz2 rfl (by decide) v n xs hs hown ad l.length cap (C l) hx (by simp [C_length]) hc (C_one l) (by unfold maxLen; omega) (by omega) hbase
      fun v' w' h1 h2 _ => h v' w' h1 (Kept5.own hown h2 hbase)

/-- 'append(own, s...)', s a string. -/
theorem wpList_append_str {w : World} {ops : Array Oper} {rest : List Oper} {o : Oper} {a : Act} {Q : Exit → Act → World → Prop} (hgd : o.guard = none) (s x : Operand)
    (ho : o.op = .call { callee := .builtin .append, args := #[s, x], argTypes := #[22, 9] })
    (base n : Nat) (v : Value) (xs : List Value) (t : ByteArray) (hs : a.eval s = v) (hown : w.ownsRow base 5 1 v n xs) (hx : a.eval x = .string t)
    (hlen : n + t.size ≤ 1000000) (hbase : base ≤ w.heap.size)
    (h : ∀ v' w', w'.ownsRow base 5 1 v' (n + t.size) (xs ++ C t.data.toList) → Kept5 base w w' → wpList Yba.prog ops Q rest (a.put o.dst v') w') : wpList Yba.prog ops Q (o :: rest) a w := by
  obtain ⟨i, hi, hz0, hz1, hz2⟩ := info_parts info5
  exact Lib.wpList_append_own_string (w := w) hgd s x 22 9 ho base 5 i Yba.underlying22 Yba.underlying9 hi hz0 hz1 hz2 v n xs hs hown t hx (by unfold maxLen; omega) (by omega) hbase
    fun v' w' h1 h2 _ => h v' w' h1 (Kept5.own hown h2 hbase)
end Go.Proofs.Ybulkbaew
