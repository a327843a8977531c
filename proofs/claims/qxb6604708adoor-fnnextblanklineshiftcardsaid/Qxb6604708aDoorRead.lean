/-
  seat b6604708aD: (*strings.Reader).Read, walked.
-/
import Derived.Test.Qxb6604708aDoorProg
import Derived.Test.Qxb6604708aDoorBase
import Derived.Outline
import Derived.Deep.Cut
import Derived.Deep.CutRange
import Derived.Deep.QuietTactic
import Derived.BigQuiet
import Derived.Deep.RegionLaw
import Derived.BigRegion
import Derived.Lib.Hide
import Derived.Lib.IndexBytes
namespace Go.Proofs.Qxb6604708aDoor
open Go Go.RowKit

variable {P : Program}
/-- 'copy(dst, s)', s a string, dst lying in row 'g' from place 'o' on: as many bytes as fit go over; the result is their number. -/
theorem run_copy_str (w : World) (dT sT ty elem : TypeId) (g o dLen dCap : Nat) (s : ByteArray) (cur : Array Value) (t : TypeId) (c : Nat) (hc : c = Nat.min s.size dLen)
    (hu : P.underlying dT = some (.slice elem)) (hs : (P.info? elem).map (·.size) = some 1) (hg : w.heap[g]? = some (.cells cur t (0, 0))) (hfit : o + c ≤ cur.size) :
    (Builtin.copy_ #[dT, sT] ty #[.slice (some ⟨g, o, none⟩) dLen dCap, .string s]).run P w =
      .ok (goInt c) (w.setRow g (cur.toList.take o ++ (Lib.byteCells (s.data.toList.take c) ++ cur.toList.drop (o + c))).toArray) := by
  have hcs : c ≤ s.size := by rw [hc]; exact Nat.min_le_left _ _
  have hlen : (Lib.byteCells (s.data.toList.take c)).length = c := by rw [Lib.byteCells_length, List.length_take, ← Lib.size_eq]; omega
  have hst := run_storeCells_at P g o t (Lib.byteCells (s.data.toList.take c)) 0 cur w hg (by rw [hlen]; simpa using hfit) (Lib.byteCells_one _)
  have htk : List.take c (List.map (fun b : UInt8 => Value.int IntKind.u8 (b.toNat : Int)) s.data.toList) = Lib.byteCells (s.data.toList.take c) := by
    rw [← List.map_take]
    rfl
  rw [hlen] at hst
  simp only [Nat.add_zero] at hst
  cases hq : P.info? elem with
  | none => simp [hq] at hs
  | some i =>
    simp [Builtin.copy_, run_underlying hu, Builtin.lenOf, Builtin.firstCells, sizeOf, typeInfo, hq, ← hc]
    rw [htk, hst]
    simp [Result.andThen, List.append_assoc]

/-- .. as one step of a region that draws its order. -/
theorem step_copy_str {ops : Array Oper} {o : Oper} {a : Act} {w : World} {K : Act → World → Prop} {Q : Exit → Act → World → Prop} {E : Prop}
    (hgd : o.guard = none) (d x : Operand) (dT sT : TypeId) (hop : o.op = Op.call { callee := Callee.builtin Builtin.copy, args := #[d, x], argTypes := #[dT, sT] })
    (elem : TypeId) (hu : P.underlying dT = some (.slice elem)) (hz : (P.info? elem).map (·.size) = some 1)
    (g off dLen dCap : Nat) (hd : a.eval d = .slice (some ⟨g, off, none⟩) dLen dCap) (s : ByteArray) (hx : a.eval x = .string s) (cur : Array Value) (t : TypeId) (c : Nat) (hc : c = Nat.min s.size dLen)
    (hg : w.heap[g]? = some (.cells cur t (0, 0))) (hfit : off + c ≤ cur.size)
    (hK : K (a.put o.dst (goInt c)) (w.setRow g (cur.toList.take off ++ (Lib.byteCells (s.data.toList.take c) ++ cur.toList.drop (off + c))).toArray)) :
    if Region.wanted o (yielded ops a.tmps) = true then Oper.wp P o a w K Q else E := by
  have hw : Region.wanted o (yielded ops a.tmps) = true := by simp [Region.wanted, hgd]
  rw [if_pos hw]
  have hrun := run_copy_str (P := P) w dT sT o.type elem g off dLen dCap s cur t c hc hu hz hg hfit
  unfold Oper.wp
  simp [execOp, hop, resolve, invoke, builtin, hd, hx, hrun, Result.andThen]
  exact hK

theorem sizeByte : (Tryd.prog.info? 5).map (·.size) = some 1 := by kernel_rfl
theorem keep_drewN (w : World) (n : Nat) : Keep (fun _ => False) w (w.drewN n) := (Keep.refl _ w).drewN n

set_option maxRecDepth 100000 in
set_option maxHeartbeats 1000000 in
theorem read_eof (s : ByteArray) (N i : Nat) (prev : Int) (x : Value) (w : World) (ev : Value) (hi : s.size ≤ i)
    (hS : w.heap[N]? = some (.cells #[.string s, .int .i64 i, .int .i64 prev] 53 (0, 0))) (hE : w.cell? ⟨1, 0, none⟩ = some ev) (hev : ∃ t p, ev = .iface t p) :
    Calls Tryd.prog 68 #[.pointer (some ⟨N, 0, none⟩), x] w fun e w' => e = .returned (.tuple #[.int .i64 0, ev]) ∧ Keep (fun _ => False) w w' := by
  have c0 : w.cell? ⟨N, 0, none⟩ = some (.string s) := block_cell hS
  have c1 : w.cell? ⟨N, 1, none⟩ = some (.int .i64 i) := block_cell hS
  obtain ⟨t, p, rfl⟩ := hev
  clear hS
  have hge : (s.size : Int) ≤ (i : Int) := by omega
  go_enter Tryd.func68, Tryd.ntmps68
  go_wp2
  go_quiet (fail)
  go_wp2
  go_quiet (fail)
  go_wp2
  go_ret2
  exact ⟨rfl, (keep_drewN _ _).drewN _⟩

set_option maxRecDepth 100000 in
set_option maxHeartbeats 2000000 in
theorem read_some (s : ByteArray) (N i e K c : Nat) (prev : Int) (U : Array Value) (w : World) (hs : s.size ≤ 2000000) (hi : i < s.size) (heK : e < K) (hc : c = Nat.min (s.size - i) (K - e))
    (hS : w.heap[N]? = some (.cells #[.string s, .int .i64 i, .int .i64 prev] 53 (0, 0))) (hU : w.heap[N + 2]? = some (.cells U 5 (0, 0))) (hUs : U.size = K) :
    Calls Tryd.prog 68 #[.pointer (some ⟨N, 0, none⟩), .slice (some ⟨N + 2, e, none⟩) (K - e) (K - e)] w fun r w' => r = .returned (.tuple #[.int .i64 c, .nilIface]) ∧
      w'.heap[N]? = some (.cells #[.string s, .int .i64 (i + c : Nat), .int .i64 (-1)] 53 (0, 0)) ∧
      w'.heap[N + 2]? = some (.cells (U.toList.take e ++ (Lib.byteCells ((s.data.toList.drop i).take c) ++ U.toList.drop (e + c))).toArray 5 (0, 0)) ∧ Keep (fun k => k = N ∨ k = N + 2) w w' := by
  have c0 : w.cell? ⟨N, 0, none⟩ = some (.string s) := block_cell hS
  have c1 : w.cell? ⟨N, 1, none⟩ = some (.int .i64 i) := block_cell hS
  have c2 : w.cell? ⟨N, 2, none⟩ = some (.int .i64 prev) := block_cell hS
  have f2 : w.frozen? ⟨N, 2, none⟩ = false := block_free hS
  have f1 : w.frozen? ⟨N, 1, none⟩ = false := block_free hS
  have HS := Lib.hid hS
  have HU := Lib.hid hU
  have HC := Lib.hid hc
  have HUs := Lib.hid hUs
  have hcK : c ≤ K - e := by rw [hc]; exact Nat.min_le_right _ _
  have hcs : c ≤ s.size - i := by rw [hc]; exact Nat.min_le_left _ _
  clear hS hU hc hUs
  have hlt : (i : Int) < (s.size : Int) := by omega
  have hlt' : ¬ (s.size : Int) ≤ (i : Int) := by omega
  have hle : (i : Int) ≤ (s.size : Int) := by omega
  go_enter Tryd.func68, Tryd.ntmps68
  go_wp2
  go_quiet (fail)
  go_wp2
  have hg : ((w.drewN nq).setCell ⟨N, 2, none⟩ (.int .i64 (-1))).heap[N + 2]? = some (.cells U 5 (0, 0)) := (block_setCell_other (w := w.drewN nq) (b := N) (b' := N + 2) (o := 2) (by omega) _).trans HU.out
  have hn : ((w.drewN nq).setCell ⟨N, 2, none⟩ (.int .i64 (-1))).heap[N]? = some (.cells #[.string s, .int .i64 i, .int .i64 (-1)] 53 (0, 0)) := block_setCell (w := w.drewN nq) (b := N) (o := 2) HS.out _
  have HG := Lib.hid hg
  have HN := Lib.hid hn
  have HKp : Hid (Keep (fun k => k = N ∨ k = N + 2) w ((w.drewN nq).setCell ⟨N, 2, none⟩ (.int .i64 (-1)))) := ((Keep.refl _ w).drewN nq).setCell (Or.inl rfl) _
  have ex : (s.extract i s.size).size = s.size - i := by simp
  have ed : (s.data.toList.drop i).take (s.size - i) = s.data.toList.drop i := List.take_of_length_le (by rw [List.length_drop, ← Lib.size_eq]; omega)
  have HX := Lib.hid ex
  have HD := Lib.hid ed
  clear hg hn ex ed
  go_cut [4] from 6 (fun x wx => x = .int .i64 c ∧ wx.heap[N]? = some (.cells #[.string s, .int .i64 i, .int .i64 (-1)] 53 (0, 0)) ∧
    wx.heap[N + 2]? = some (.cells (U.toList.take e ++ (Lib.byteCells ((s.data.toList.drop i).take c) ++ U.toList.drop (e + c))).toArray 5 (0, 0)) ∧ Keep (fun k => k = N ∨ k = N + 2) w wx)
  case first =>
    go_region_law (refine step_copy_str rfl (.tmp 20) (.tmp 29) 25 9 rfl 5 Tryd.underlying25 sizeByte (N + 2) e (K - e) (K - e) rfl (s.extract i s.size) rfl U 5 c (by rw [HX.out]; exact HC.out) HG.out (by rw [HUs.out]; omega) ?_)
    all_goals
      go_wp2
      go_meet
      rw [HD.out]
      refine ⟨rfl, ?_, ?_, ?_⟩
      · exact (setRow_other _ _ _ _ (by omega)).trans HN.out
      · exact setRow_heap _ _ U _ 5 (0, 0) HG.out
      · exact (HKp.out.drew).setRow (Or.inr rfl) _
  case rest =>
  obtain ⟨rfl, hN, hU, hk⟩ := hcut
  have d1 : wc.cell? ⟨N, 1, none⟩ = some (.int .i64 i) := block_cell hN
  have g1 : wc.frozen? ⟨N, 1, none⟩ = false := block_free hN
  have R1 : Hid ((wc.setCell ⟨N, 1, none⟩ (.int .i64 ((i : Int) + c))).heap[N]? = some (.cells #[.string s, .int .i64 ((i : Int) + c), .int .i64 (-1)] 53 (0, 0))) := block_setCell (b := N) (o := 1) hN _
  have R2 : Hid ((wc.setCell ⟨N, 1, none⟩ (.int .i64 ((i : Int) + c))).heap[N + 2]? = some (.cells (U.toList.take e ++ (Lib.byteCells ((s.data.toList.drop i).take c) ++ U.toList.drop (e + c))).toArray 5 (0, 0))) := (block_setCell_other (b := N) (b' := N + 2) (o := 1) (by omega) _).trans hU
  have R3 : Hid (Keep (fun k => k = N ∨ k = N + 2) w (wc.setCell ⟨N, 1, none⟩ (.int .i64 ((i : Int) + c)))) := hk.setCell (Or.inl rfl) _
  clear hN hU hk
  go_wp2
  go_ret2
  exact ⟨rfl, by rw [R1.out]; push_cast; rfl, R2.out, R3.out⟩
end Go.Proofs.Qxb6604708aDoor
