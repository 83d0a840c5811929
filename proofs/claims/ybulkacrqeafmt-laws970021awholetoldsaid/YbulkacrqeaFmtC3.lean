import Derived.Test.YbulkacrqeaFmtC2
namespace Go.Proofs.YbulkacrqeaFmt
open Go.RowKit

/-- w' is w with new blocks, and with writes to the blocks in S alone -/
structure Moved (S : List Nat) (w w' : World) : Prop where
  os : w'.os = w.os
  tape : w'.tape = w.tape
  output : w'.output = w.output
  size : w.heap.size ≤ w'.heap.size
  block : ∀ b, b < w.heap.size → b ∉ S → w'.heap[b]? = w.heap[b]?

theorem Moved.refl (S : List Nat) (w : World) : Moved S w w := ⟨rfl, rfl, rfl, Nat.le_refl _, fun _ _ _ => rfl⟩
theorem Moved.trans {S : List Nat} {a b c : World} (h : Moved S a b) (k : Moved S b c) : Moved S a c :=
  ⟨k.os.trans h.os, k.tape.trans h.tape, k.output.trans h.output, Nat.le_trans h.size k.size, fun i hi hs => (k.block i (Nat.lt_of_lt_of_le hi h.size) hs).trans (h.block i hi hs)⟩
/-- blocks that are new may be written -/
theorem Moved.trans' {S T : List Nat} {a b c : World} (h : Moved S a b) (k : Moved T b c) (hT : ∀ x ∈ T, x ∈ S ∨ a.heap.size ≤ x) : Moved S a c :=
  ⟨k.os.trans h.os, k.tape.trans h.tape, k.output.trans h.output, Nat.le_trans h.size k.size, fun i hi hs => (k.block i (Nat.lt_of_lt_of_le hi h.size) (fun hx => by rcases hT i hx with h1 | h1; exact hs h1; omega)).trans (h.block i hi hs)⟩
theorem Moved.mono {S T : List Nat} {a b : World} (h : Moved S a b) (hT : ∀ x ∈ S, x ∈ T ∨ a.heap.size ≤ x) : Moved T a b :=
  ⟨h.os, h.tape, h.output, h.size, fun i hi hs => h.block i hi (fun hx => by rcases hT i hx with h1 | h1; exact hs h1; omega)⟩
theorem Moved.of_grown {w w' : World} {row : Option Nat} (h : w.grownBy w' row) : Moved row.toList w w' :=
  ⟨h.os, h.tape, h.output, h.size, fun b hb hs => h.block b hb (fun e => hs (by simp [← e]))⟩
theorem Moved.of_alloc (w : World) (o : Obj) : Moved [] w (w.alloc o) := Moved.of_grown (World.grownBy_alloc w o none)
theorem Moved.of_setCell (w : World) (a : Addr) (u : Value) : Moved [a.block] w (w.setCell a u) :=
  ⟨rfl, rfl, rfl, by simp [World.setCell], fun b _ hs => Below.heap_setCell _ _ _ _ (by simpa using hs)⟩
theorem Moved.of_below {w w' : World} (h : Below w.heap.size w w') : Moved [] w w' := ⟨h.os, h.tape, h.output, h.size, fun b hb _ => h.block b hb⟩
theorem Moved.below {B : Nat} {S : List Nat} {w w' : World} (h : Moved S w w') (hB : B ≤ w.heap.size) (hS : ∀ x ∈ S, B ≤ x) : Below B w w' :=
  ⟨h.os, h.tape, h.output, h.size, fun b hb => h.block b (by omega) (fun hx => by have := hS b hx; omega)⟩
theorem Moved.drew {S : List Nat} {a w : World} (h : Moved S a w) : Moved S a w.drew := ⟨h.os, h.tape, h.output, h.size, h.block⟩

theorem setCell_block {w : World} {p j : Nat} {cs : Array Value} {t : TypeId} {fr : Nat × Nat} (h : w.heap[p]? = some (.cells cs t fr)) (v : Value) : (w.setCell ⟨p, j, none⟩ v).heap[p]? = some (.cells (cs.setIfInBounds j v) t fr) := by
  have hlt := lt_of_block h
  have h' : w.heap[p] = .cells cs t fr := by simpa [Array.getElem?_eq_getElem hlt] using h
  show (w.heap.modify p _)[p]? = _
  rw [Array.getElem?_eq_getElem (by simpa using hlt), Array.getElem_modify_self, h']
  rfl

theorem run_makeMap_hint (n : Nat) (w : World) : (Instr.makeMap 57 (some (.int .i64 n))).run Ybaf.prog w = .ok (.map (some w.heap.size)) (w.alloc (.map #[] 0)) := by
  simp [Instr.makeMap, asInt, asIntOf]
end Go.Proofs.YbulkacrqeaFmt
