import Derived.Test.Qxb6614155aModsRows
import Derived.WalkKit
import Derived.ProofKit
import Derived.WalkLawsBesides
import Derived.RowKit3
import Derived.Laws.Tables
namespace Go.Proofs.Qxb6614155aMods.Chain
open Go.RowKit

theorem setRow_new (w : World) (old cells : Array Value) (t : TypeId) : (w.alloc (.cells old t)).setRow w.heap.size cells = w.alloc (.cells cells t) := by
  have e : ((w.heap.push (.cells old t)).modify w.heap.size fun
      | .cells _ elem frozen => .cells cells elem frozen
      | o => o) = w.heap.push (.cells cells t) := by
    apply Array.ext_getElem?
    intro i
    rw [Array.getElem?_modify, Array.getElem?_push, Array.getElem?_push]
    by_cases h : w.heap.size = i
    · subst h; simp
    · rw [if_neg h, if_neg (Ne.symm h), if_neg (Ne.symm h)]
  show ({ (w.alloc (.cells old t)) with heap := _ } : World) = _
  exact congrArg (fun h => ({ w with heap := h } : World)) e

/-- A whole struct is stored into the block that was laid last. -/
theorem wpList_store_new {P : Program} {ops : Array Oper} {rest : List Oper} {o : Oper} {a : Act} {Q : Exit → Act → World → Prop} (hgd : o.guard = none) (ty : TypeId) (x y : Operand) (ho : o.op = .store ty x y) (hd : o.dst = none)
    (w : World) (old cells : Array Value) (t : TypeId) (hx : a.eval x = .pointer (some ⟨w.heap.size, 0, none⟩)) (hy : a.eval y = .agg cells)
    (hi : (P.info? ty).map (·.size) = some cells.size) (hold : old.size = cells.size) (h1 : cells.all (·.oneCell') = true)
    (h : wpList P ops Q rest a (w.alloc (.cells cells t))) : wpList P ops Q (o :: rest) a (w.alloc (.cells old t)) := by
  refine wpList_store_row hgd ty x y ho w.heap.size cells hx hy t old (MapKept.heap_alloc w _).1 hi hold h1 ?_
  rw [hd, setRow_new]
  exact h

/-- A run's cells, of which State, Error and Depth are not zero. -/
def runCells (s e : ByteArray) (d : Int) : Array Value :=
  #[.string ⟨#[]⟩, .string ⟨#[]⟩, .int .u64 0, .int .i64 0, .pointer none, .int .u64 0, .int .i64 0, .pointer none, .int .u64 0, .int .i64 0, .pointer none,
    .string s, .pointer none, .int .i64 0, .pointer none, .string e, .string ⟨#[]⟩, .string ⟨#[]⟩, .string ⟨#[]⟩, .int .i64 d]

theorem runCells_one (s e : ByteArray) (d : Int) : (runCells s e d).all (·.oneCell') = true := by simp [runCells, Value.oneCell']

theorem queue_low (s e : ByteArray) (d : Int) (hd : ¬ 10 < d) (w : World) :
    Calls Trym.prog 7 #[.pointer (some ⟨w.heap.size, 0, none⟩)] (w.alloc (.cells (runCells s e d) 37)) fun r w' =>
      r = .returned (.tuple #[]) ∧ w' = w.alloc (.cells (runCells ⟨#[113, 117, 101, 117, 101, 100]⟩ e d) 37) := by
  unfold runCells
  go_enter Trym.func7, Trym.ntmps7
  go_wp2
  go_end0
  exact ⟨rfl, rfl⟩
theorem queue_high (s e : ByteArray) (d : Int) (hd : 10 < d) (w : World) :
    Calls Trym.prog 7 #[.pointer (some ⟨w.heap.size, 0, none⟩)] (w.alloc (.cells (runCells s e d) 37)) fun r w' =>
      r = .returned (.tuple #[]) ∧ w' = w.alloc (.cells (runCells ⟨#[115, 107, 105, 112, 112, 101, 100]⟩ ⟨#[99, 97, 115, 99, 97, 100, 101, 95, 108, 105, 109, 105, 116]⟩ d) 37) := by
  unfold runCells
  go_enter Trym.func7, Trym.ntmps7
  go_wp2
  go_end0
  exact ⟨rfl, rfl⟩
theorem zzQueue_low (s e : ByteArray) (d : Int) (hd : ¬ 10 < d) (w : World) :
    Calls Trym.prog 6 #[.pointer (some ⟨w.heap.size, 0, none⟩)] (w.alloc (.cells (runCells s e d) 37)) fun r w' =>
      r = .returned (.tuple #[]) ∧ w' = w.alloc (.cells (runCells ⟨#[113, 117, 101, 117, 101, 100]⟩ e d) 37) := by
  go_enter Trym.func6, Trym.ntmps6
  go_wp2_with (go_at_call 7; refine (queue_low s e d hd w).mono ?_; rintro r w' ⟨rfl, rfl⟩)
  go_end0
  exact ⟨rfl, rfl⟩
theorem zzQueue_high (s e : ByteArray) (d : Int) (hd : 10 < d) (w : World) :
    Calls Trym.prog 6 #[.pointer (some ⟨w.heap.size, 0, none⟩)] (w.alloc (.cells (runCells s e d) 37)) fun r w' =>
      r = .returned (.tuple #[]) ∧ w' = w.alloc (.cells (runCells ⟨#[115, 107, 105, 112, 112, 101, 100]⟩ ⟨#[99, 97, 115, 99, 97, 100, 101, 95, 108, 105, 109, 105, 116]⟩ d) 37) := by
  go_enter Trym.func6, Trym.ntmps6
  go_wp2_with (go_at_call 7; refine (queue_high s e d hd w).mono ?_; rintro r w' ⟨rfl, rfl⟩)
  go_end0
  exact ⟨rfl, rfl⟩
end Go.Proofs.Qxb6614155aMods.Chain
