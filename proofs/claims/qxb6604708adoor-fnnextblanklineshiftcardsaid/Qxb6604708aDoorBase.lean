/-
  seat b6604708aD: memory kept but for a few blocks; a bufio.Reader over a strings.Reader, as it lies in memory.
-/
import Derived.WalkKit
import Derived.WalkLawsBesides
import Derived.WalkSpells
import Derived.Laws.CopyRow
import Derived.Lib.BufferWrite
namespace Go.Proofs.Qxb6604708aDoor
open Go Go.RowKit

/-- Every block that was there and is not among 'm' is as it was. -/
structure Keep (m : Nat → Prop) (w w' : World) : Prop where
  os : w'.os = w.os
  tape : w'.tape = w.tape
  output : w'.output = w.output
  size : w.heap.size ≤ w'.heap.size
  block : ∀ k, k < w.heap.size → ¬ m k → w'.heap[k]? = w.heap[k]?

variable {m m' : Nat → Prop} {w w1 w2 w3 : World}
theorem Keep.refl (m : Nat → Prop) (w : World) : Keep m w w := ⟨rfl, rfl, rfl, Nat.le_refl _, fun _ _ _ => rfl⟩
theorem Keep.trans (h1 : Keep m w1 w2) (h2 : Keep m w2 w3) : Keep m w1 w3 :=
  ⟨h2.os.trans h1.os, h2.tape.trans h1.tape, h2.output.trans h1.output, Nat.le_trans h1.size h2.size, fun k hk hm => (h2.block k (Nat.lt_of_lt_of_le hk h1.size) hm).trans (h1.block k hk hm)⟩
/-- .. where the second step may also turn what the first has made. -/
theorem Keep.trans' (h1 : Keep m w1 w2) (h2 : Keep m' w2 w3) (hm : ∀ k, m' k → m k ∨ w1.heap.size ≤ k) : Keep m w1 w3 :=
  ⟨h2.os.trans h1.os, h2.tape.trans h1.tape, h2.output.trans h1.output, Nat.le_trans h1.size h2.size, fun k hk hk' => (h2.block k (Nat.lt_of_lt_of_le hk h1.size) (fun h => (hm k h).elim hk' (fun h' => by omega))).trans (h1.block k hk hk')⟩
theorem Keep.mono (h : Keep m w1 w2) (hm : ∀ k, m k → m' k) : Keep m' w1 w2 := ⟨h.os, h.tape, h.output, h.size, fun k hk h' => h.block k hk (fun h'' => h' (hm k h''))⟩
theorem Keep.below (h : Keep m w1 w2) {B : Nat} (hB : B ≤ w1.heap.size) (hm : ∀ k, m k → B ≤ k) : Below B w1 w2 :=
  ⟨h.os, h.tape, h.output, h.size, fun k hk => h.block k (Nat.lt_of_lt_of_le hk hB) (fun h' => by have := hm k h'; omega)⟩
theorem Keep.of_below (h : Below w1.heap.size w1 w2) (m : Nat → Prop) : Keep m w1 w2 := ⟨h.os, h.tape, h.output, h.size, fun k hk _ => h.block k hk⟩
theorem Keep.drewN (h : Keep m w1 w2) (n : Nat) : Keep m w1 (w2.drewN n) := ⟨h.os, h.tape, h.output, h.size, h.block⟩
theorem Keep.drew (h : Keep m w1 w2) : Keep m w1 w2.drew := ⟨h.os, h.tape, h.output, h.size, h.block⟩
theorem Keep.alloc (h : Keep m w1 w2) (o : Obj) : Keep m w1 (w2.alloc o) :=
  ⟨h.os, h.tape, h.output, by rw [World.size_alloc]; have := h.size; omega, fun k hk hm => by
    have h1 := h.block k hk hm
    have hlt : k < w2.heap.size := Nat.lt_of_lt_of_le hk h.size
    rw [← h1]
    show (w2.heap.push o)[k]? = _
    rw [Array.getElem?_push, if_neg (by omega)]⟩
theorem Keep.setCell (h : Keep m w1 w2) {b i : Nat} (hb : m b) (v : Value) : Keep m w1 (w2.setCell ⟨b, i, none⟩ v) :=
  ⟨h.os, h.tape, h.output, by rw [World.size_setCell]; exact h.size, fun k hk hm => by
    rw [Below.heap_setCell _ _ _ _ (fun e => hm (by rw [show k = b from e]; exact hb))]
    exact h.block k hk hm⟩
/-- A cell of a block that is kept. -/
theorem Keep.cell (h : Keep m w1 w2) {b i : Nat} {v : Value} (hm : ¬ m b) (hc : w1.cell? ⟨b, i, none⟩ = some v) : w2.cell? ⟨b, i, none⟩ = w1.cell? ⟨b, i, none⟩ := by
  have hb := h.block b (World.block_lt_of_cell? w1 _ hc) hm
  simp only [World.cell?, hb]
theorem Keep.setRow (h : Keep m w1 w2) {g : Nat} (hb : m g) (cs : Array Value) : Keep m w1 (w2.setRow g cs) :=
  ⟨h.os, h.tape, h.output, by rw [setRow_size]; exact h.size, fun k hk hm => by
    rw [setRow_other _ _ _ _ (fun e => hm (by rw [e]; exact hb))]
    exact h.block k hk hm⟩

/-- The cells of a whole block. -/
theorem block_cell {b o : Nat} {cs : Array Value} {t : TypeId} {fz : Nat × Nat} (h : w.heap[b]? = some (.cells cs t fz)) : w.cell? ⟨b, o, none⟩ = cs[o]? := by simp [World.cell?, h]
theorem block_free {b o : Nat} {cs : Array Value} {t : TypeId} (h : w.heap[b]? = some (.cells cs t (0, 0))) : w.frozen? ⟨b, o, none⟩ = false := by simp [World.frozen?, h]
theorem block_lt {b : Nat} {o : Obj} (h : w.heap[b]? = some o) : b < w.heap.size := (Array.getElem?_eq_some_iff.1 h).1
theorem block_setCell {b o : Nat} {cs : Array Value} {t : TypeId} {fz : Nat × Nat} (h : w.heap[b]? = some (.cells cs t fz)) (v : Value) : (w.setCell ⟨b, o, none⟩ v).heap[b]? = some (.cells (cs.setIfInBounds o v) t fz) := by
  rw [setCell_eq_setRow w b o cs t fz v h]
  exact setRow_heap w b cs _ t fz h
theorem block_setCell_other {b b' o : Nat} (hne : b' ≠ b) (v : Value) : (w.setCell ⟨b, o, none⟩ v).heap[b']? = w.heap[b']? := Below.heap_setCell _ _ _ _ hne
end Go.Proofs.Qxb6604708aDoor
