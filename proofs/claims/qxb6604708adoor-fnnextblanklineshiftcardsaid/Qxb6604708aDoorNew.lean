/-
  seat b6604708aD: a new reader over a string, walked.
-/
import Derived.Test.Qxb6604708aDoorNext
import Derived.Laws.MakeOwn
namespace Go.Proofs.Qxb6604708aDoor
open Go Go.RowKit

theorem infoByte : ∃ i0 : TypeInfo, Tryd.prog.info? 5 = some i0 ∧ i0.zero = some (.int .u8 0) ∧ i0.size = 1 ∧ i0.bytes = 1 := by
  have h : (Tryd.prog.info? 5).map (fun i => (i.zero, i.size, i.bytes)) = some (some (.int .u8 0), 1, 1) := by kernel_rfl
  cases hh : Tryd.prog.info? 5 with
  | none => rw [hh] at h; cases h
  | some i => rw [hh] at h; simp at h; exact ⟨i, rfl, h.1, h.2.1, h.2.2⟩

theorem made_buf : ∃ U : Array Value, U.size = 65536 ∧ ∀ W : World, (Instr.makeSlice 25 (.int .i64 65536) (.int .i64 65536)).run Tryd.prog W = .ok (.slice (some ⟨W.heap.size, 0, none⟩) 65536 65536) (W.alloc (.cells U 5)) := by
  obtain ⟨i0, hi0, hz0, hz1, hz2⟩ := infoByte
  refine ⟨madeCells (Value.int .u8 0).cells (65536 * i0.size), by rw [size_madeCells, hz1], fun W => ?_⟩
  exact run_makeSlice W 25 5 i0 (.int .u8 0) Tryd.underlying25 hi0 hz0 .i64 .i64 65536 65536 (by decide) (by decide) (by rw [hz1]; decide) (by rw [hz2]; decide) (by decide)

/-- The world behind a new reader. -/
def newWorld (w : World) (s : ByteArray) (limit : Int) (U : Array Value) : World :=
  (((w.alloc (.cells #[.string s, .int .i64 0, .int .i64 (-1)] 53)).alloc (.cells #[.slice (some ⟨w.heap.size + 2, 0, none⟩) 65536 65536, .iface 42 (.pointer (some ⟨w.heap.size, 0, none⟩)), .int .i64 0, .int .i64 0, .nilIface, .int .i64 (-1), .int .i64 (-1)] 65)).alloc (.cells U 5)).alloc (.cells #[.pointer (some ⟨w.heap.size + 1, 0, none⟩), .int .i64 limit, .int .i64 0, .slice none 0 0] 47)

set_option maxRecDepth 100000 in
set_option maxHeartbeats 4000000 in
theorem newReader (s : ByteArray) (limit : Int) (w : World) :
    Calls Tryd.prog 9 #[.string s, .int .i64 limit] w fun x w' => x = .returned (.pointer (some ⟨w.heap.size + 3, 0, none⟩)) ∧ ∃ U : Array Value, U.size = 65536 ∧ w' = newWorld w s limit U := by
  have hta : ∀ (a : Addr) (W : World), (Instr.typeAssert (.iface 42 (.pointer (some a))) 50 45 true).run Tryd.prog W = .ok (.tuple #[.pointer none, .bool false]) W := fun a W => by kernel_rfl
  have hmx : max (65536 : Int) 16 = 65536 := by decide
  obtain ⟨U, hU, hmk⟩ := made_buf
  have HU := Lib.hid hU
  clear hU
  unfold newWorld
  go_enter Tryd.func9, Tryd.ntmps9
  go_wp2
  go_ret
  exact ⟨rfl, U, HU.out, rfl⟩

theorem new_size (w : World) (s : ByteArray) (limit : Int) (U : Array Value) : (newWorld w s limit U).heap.size = w.heap.size + 4 := by
  unfold newWorld
  simp [World.size_alloc]

theorem new_keep (w : World) (s : ByteArray) (limit : Int) (U : Array Value) : Keep (fun _ => False) w (newWorld w s limit U) := by
  unfold newWorld
  exact ((((Keep.refl _ w).alloc _).alloc _).alloc _).alloc _

theorem new_rr (w : World) (s : ByteArray) (limit : Int) (U : Array Value) (L : Nat) (hU : U.size = 65536) : Rr s w.heap.size 65536 L limit 0 (kept L s.data.toList) (.slice none 0 0) (newWorld w s limit U) := by
  have h0 : (newWorld w s limit U).heap[w.heap.size]? = some (.cells #[.string s, .int .i64 0, .int .i64 (-1)] 53 (0, 0)) := by
    unfold newWorld
    rw [heap_alloc_old _ _ (by simp [World.size_alloc]; omega), heap_alloc_old _ _ (by simp [World.size_alloc]; omega), heap_alloc_old _ _ (by simp [World.size_alloc])]
    exact heap_alloc_new w _
  have h1 : (newWorld w s limit U).heap[w.heap.size + 1]? = some (.cells #[.slice (some ⟨w.heap.size + 2, 0, none⟩) 65536 65536, .iface 42 (.pointer (some ⟨w.heap.size, 0, none⟩)), .int .i64 0, .int .i64 0, .nilIface, .int .i64 (-1), .int .i64 (-1)] 65 (0, 0)) := by
    unfold newWorld
    rw [heap_alloc_old _ _ (by simp [World.size_alloc]), heap_alloc_old _ _ (by simp [World.size_alloc])]
    have := heap_alloc_new (w.alloc (.cells #[.string s, .int .i64 0, .int .i64 (-1)] 53)) (.cells #[.slice (some ⟨w.heap.size + 2, 0, none⟩) 65536 65536, .iface 42 (.pointer (some ⟨w.heap.size, 0, none⟩)), .int .i64 0, .int .i64 0, .nilIface, .int .i64 (-1), .int .i64 (-1)] 65)
    rw [World.size_alloc] at this
    exact this
  have h2 : (newWorld w s limit U).heap[w.heap.size + 2]? = some (.cells U 5 (0, 0)) := by
    unfold newWorld
    rw [heap_alloc_old _ _ (by simp [World.size_alloc])]
    have := heap_alloc_new ((w.alloc (.cells #[.string s, .int .i64 0, .int .i64 (-1)] 53)).alloc (.cells #[.slice (some ⟨w.heap.size + 2, 0, none⟩) 65536 65536, .iface 42 (.pointer (some ⟨w.heap.size, 0, none⟩)), .int .i64 0, .int .i64 0, .nilIface, .int .i64 (-1), .int .i64 (-1)] 65)) (.cells U 5)
    rw [World.size_alloc, World.size_alloc] at this
    exact this
  have h3 : (newWorld w s limit U).heap[w.heap.size + 3]? = some (.cells #[.pointer (some ⟨w.heap.size + 1, 0, none⟩), .int .i64 limit, .int .i64 0, .slice none 0 0] 47 (0, 0)) := by
    unfold newWorld
    have := heap_alloc_new (((w.alloc (.cells #[.string s, .int .i64 0, .int .i64 (-1)] 53)).alloc (.cells #[.slice (some ⟨w.heap.size + 2, 0, none⟩) 65536 65536, .iface 42 (.pointer (some ⟨w.heap.size, 0, none⟩)), .int .i64 0, .int .i64 0, .nilIface, .int .i64 (-1), .int .i64 (-1)] 65)).alloc (.cells U 5)) (.cells #[.pointer (some ⟨w.heap.size + 1, 0, none⟩), .int .i64 limit, .int .i64 0, .slice none 0 0] 47)
    rw [World.size_alloc, World.size_alloc, World.size_alloc] at this
    exact this
  exact ⟨⟨0, Nat.zero_le _, ⟨⟨0, 0, ⟨⟨-1, h0⟩, ⟨-1, -1, h1⟩, ⟨U, h2, hU, by simp [Lib.byteCells]⟩, by simp, Nat.le_refl _, by omega⟩⟩, h3⟩, by rw [List.drop_zero]⟩, 0, [], World.ownsRow_nil _ _ _ _⟩
end Go.Proofs.Qxb6604708aDoor
