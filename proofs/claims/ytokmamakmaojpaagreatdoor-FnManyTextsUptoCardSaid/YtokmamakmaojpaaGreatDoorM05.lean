/-
  Rows of bytes that a call makes and appends to: the law of one byte, the law of several.
-/
import Derived.Test.YtokmamakmaojpaaGreatDoorM01
import Derived.Lib.OthersKept
import Derived.Lib.UnsafeStr
import Derived.Lib.OwnKind
set_option linter.unusedVariables false
set_option linter.unusedSimpArgs false
namespace Go.Proofs.YtokmamakmaojpaaGreatDoor
open Go.RowKit

theorem info5 : (Tryz.prog.info? 5).map (fun i => (i.zero, i.size, i.bytes)) = some (some (.int .u8 0), 1, 1) := by kernel_rfl

/-- v is a row of bytes of the call's own that holds l; from w0 to w nothing else has turned but new blocks and rows of bytes from B on. -/
structure BRow (B : Nat) (w0 : World) (v : Value) (l : List UInt8) (w : World) : Prop where
  own : w.ownsRow B 5 1 v l.length (Lib.byteCells l)
  below : Below B w0 w
  kept : Lib.OthersKept 5 none w0 w
  base : B ≤ w0.heap.size

theorem BRow.size {B : Nat} {w0 w : World} {v : Value} {l : List UInt8} (h : BRow B w0 v l w) : w0.heap.size ≤ w.heap.size := h.below.size
theorem BRow.drewN {B : Nat} {w0 w : World} {v : Value} {l : List UInt8} (h : BRow B w0 v l w) (n : Nat) : BRow B w0 v l (w.drewN n) :=
  ⟨h.own, below_drewN h.below n, h.kept, h.base⟩
theorem BRow.block {B : Nat} {w0 w : World} {v : Value} {l : List UInt8} (h : BRow B w0 v l w) {k : Nat} {cs : Array Value} {T : TypeId} {fz : Nat × Nat} (hk : w0.heap[k]? = some (.cells cs T fz)) (hT : T ≠ 5) :
    w.heap[k]? = some (.cells cs T fz) :=
  h.kept k _ hk (by simp) (fun c fz' e => hT (by injection e))

/-- What an append of new cells leaves. -/
theorem BRow.grown {B : Nat} {w0 w w' : World} {v v' : Value} {l m : List UInt8} (h : BRow B w0 v l w) (hg : w.grownBy w' v.ownBlock) (ho : w'.ownsRow B 5 1 v' (l ++ m).length (Lib.byteCells (l ++ m))) : BRow B w0 v' (l ++ m) w' :=
  ⟨ho, h.below.grown hg (Nat.le_trans h.base h.below.size) (fun k hk => (h.own.lt k hk).1), h.kept.grown hg (Lib.ownsRow_kind h.own), h.base⟩

/-- A block of the call's own that is laid beside. -/
theorem BRow.alloc {B : Nat} {w0 w : World} {v : Value} {l : List UInt8} (h : BRow B w0 v l w) (o : Obj) : BRow B w0 v l (w.alloc o) :=
  ⟨h.own.alloc o, h.below.alloc (Nat.le_trans h.base h.below.size) o, h.kept.alloc o, h.base⟩

theorem bytes_oneCell (l : List UInt8) : ∀ v ∈ Lib.byteCells l, v.oneCell' = true := by
  intro v hv
  simp only [Lib.byteCells, List.mem_map] at hv
  obtain ⟨c, _, rfl⟩ := hv
  rfl
theorem byteCells_single (c : UInt8) : Lib.byteCells [c] = [.int .u8 (c.toNat : Int)] := rfl

/-- 'append(v, c)': the byte lies in a new block of its own. -/
theorem wpList_push {ops : Array Oper} {rest : List Oper} {o : Oper} {a : Act} {Q : Exit → Act → World → Prop} {B : Nat} {w0 w : World} {v : Value} {l : List UInt8} (hR : BRow B w0 v l w) (c : UInt8) (ci : Int) (hc : ci = (c.toNat : Int))
    (hl : l.length + 1 ≤ 140737488355328)
    (hgd : o.guard = none) (s x : Operand) (ho : o.op = .call { callee := .builtin .append, args := #[s, x], argTypes := #[60, 60] }) (hs : a.eval s = v) (hx : a.eval x = .slice (some ⟨w.heap.size, 0, none⟩) 1 1)
    (h : ∀ v' w', BRow B w0 v' (l ++ [c]) w' → wpList Tryz.prog ops Q rest (a.put o.dst v') w') : wpList Tryz.prog ops Q (o :: rest) a (w.alloc (.cells #[.int .u8 ci] 5)) := by
  subst hc
  obtain ⟨i0, hi, hz0, hz1, hz2⟩ := info_parts info5
  refine wpList_append_own _ hgd s x 60 ho B 5 i0 (.int .u8 0) 1 1 Tryz.underlying60 hi hz0 hz1 hz2 rfl (by decide) v l.length (Lib.byteCells l) hs (hR.own.alloc _) ⟨w.heap.size, 0, none⟩ 1 1 (Lib.byteCells [c]) hx rfl ?_ (bytes_oneCell _) (by unfold maxLen; omega) (by omega) ?_ ?_
  · intro j u hj
    match j, hj with
    | 0, hj => simp [byteCells_single] at hj; subst hj; simp [Addr.add]
  · have := hR.base
    have := hR.size
    simp
    omega
  · intro v' w' h1 h2 _
    refine h v' w' ((hR.alloc _).grown h2 ?_)
    rw [Lib.byteCells_append, List.length_append]
    exact h1

end Go.Proofs.YtokmamakmaojpaaGreatDoor
