/-
  seat b6604708aD: what the rows' laid variables say: the two sentinels.
-/
import Derived.Test.Qxb6604708aDoorRows
import Derived.Test.Qxb6604708aDoorExact
import Derived.ProofKit
import Derived.OpenShut
import Derived.Lay
import Derived.Stop.LaidErr
import Derived.LaidLaws
import Derived.Stop.ErrReads
namespace Go.Proofs.Qxb6604708aDoor
open Go Go.ChangeShapes Go.WideShapes Go.RowKit

theorem own : ownKnob Tryd.prog.godebug = none := by kernel_rfl
theorem gEOF : Tryd.prog.globalNamed "io.EOF" = some 1 := by kernel_rfl
theorem gFull : Tryd.prog.globalNamed "bufio.ErrBufferFull" = some 0 := by kernel_rfl
theorem gEOFType : (Tryd.prog.globals[1]?).map (·.type) = some 27 := by kernel_rfl
theorem gFullType : (Tryd.prog.globals[0]?).map (·.type) = some 27 := by kernel_rfl
theorem cells98 : Tryd.prog.cellsOf 98 = 1 := by kernel_rfl
theorem cells9 : Tryd.prog.cellsOf 9 = 1 := by kernel_rfl
theorem star : "*" ++ "errors.errorString" = "*errors.errorString" := by decide
theorem row81 (u : TypeId) (h : Tryd.prog.typeName? 3 u = some "*errors.errorString") : u = 81 :=
  typeName_ptr_named (nm := "errors.errorString") (by rw [star]; kernel_rfl) (by kernel_rfl) (by decide) u (by rw [star]; exact h)

theorem sentinels {W : World} {d1 : DataW Unit} {r : List (String × DataW Unit)} (h : laidMet Tryd.prog (("io.EOF", Rows.laid_io_EOF) :: ("io.ErrNoProgress", d1) :: ("bufio.ErrBufferFull", Rows.laid_bufio_ErrBufferFull) :: r) W) :
    ∃ ev fv, Sent W.heap.size ev fv W := by
  obtain ⟨ps, ⟨g0, t0, cs0, f0, p0, q0, hg0, ht0, hv0, hd0, ⟨g1, t1, cs1, f1, p1, q1, hg1, ht1, hv1, hd1, ⟨g2, t2, cs2, f2, p2, q2, hg2, ht2, hv2, hd2, hq2, e2⟩, e1⟩, e0⟩, hnd, hrows⟩ := h
  obtain rfl := Option.some.inj (gEOF.symm.trans hg0)
  obtain rfl := Option.some.inj (gFull.symm.trans hg2)
  obtain rfl := Option.some.inj (gEOFType.symm.trans ht0)
  obtain rfl := Option.some.inj (gFullType.symm.trans ht2)
  subst e2 e1 e0
  obtain ⟨l0⟩ := cs0
  obtain ⟨l2⟩ := cs2
  have ok0 : ∀ u v, l0 = [.iface u v] → Value.okWide Tryd.prog W .any 0 u v := fun u v e => by
    subst e
    exact (hrows 1 0 (by simp [MemPlace.row])).2 u v (by simpa using World.var?_cell hg0 hv0 0)
  have ok2 : ∀ u v, l2 = [.iface u v] → Value.okWide Tryd.prog W .any 0 u v := fun u v e => by
    subst e
    exact (hrows 0 0 (by simp [MemPlace.row])).2 u v (by simpa using World.var?_cell hg2 hv2 0)
  obtain ⟨a0, s0, rfl, hc0, hs0, hz0, rfl⟩ := errorString_of_trod Tryd.underlying27 row81 Tryd.underlying81 Tryd.underlying98 rfl rfl Tryd.underlying9 cells98 cells9 hd0 ok0
  obtain ⟨a2, s2, rfl, hc2, hs2, hz2, rfl⟩ := errorString_of_trod Tryd.underlying27 row81 Tryd.underlying81 Tryd.underlying98 rfl rfl Tryd.underlying9 cells98 cells9 hd2 ok2
  obtain ⟨c0, t0, hb0⟩ := (hrows a0.block a0.off (by simp [MemPlace.row])).1
  obtain ⟨c2, t2, hb2⟩ := (hrows a2.block a2.off (by simp [MemPlace.row])).1
  have hE : W.cell? ⟨1, 0, none⟩ = some (.iface 81 (.pointer (some a0))) := by simpa using World.var?_cell hg0 hv0 0
  have hF : W.cell? ⟨0, 0, none⟩ = some (.iface 81 (.pointer (some a2))) := by simpa using World.var?_cell hg2 hv2 0
  refine ⟨_, _, hE, hF, ⟨a0, a2, c0, c2, t0, t2, rfl, rfl, ?_, block_lt hb0, block_lt hb2, hb0, hb2⟩, World.block_lt_of_cell? W _ hE⟩
  rintro rfl
  rw [hc0] at hc2
  injection hc2 with e
  injection e with e
  subst e
  rw [hs0] at hs2
  cases hs2
end Go.Proofs.Qxb6604708aDoor
