/-
  seat b6604462aD: zzModelDeclB1, walked: none or one import.
-/
import Derived.Test.Qxb6604462aDoorFull
import Derived.Test.Qxb6604462aDoorDecl
namespace Go.Proofs.Qxb6604462aDoor
open Go Go.RowKit

/-- Paths in one row, aliases in another. -/
def EntsAt (bp ba : Nat) (es : List Ent) (w : World) : Prop := ∀ i (h : i < es.length), w.cell? ⟨bp, i, none⟩ = some (.string es[i].1) ∧ w.cell? ⟨ba, i, none⟩ = some (.string es[i].2)
theorem EntsAt.keep {bp ba : Nat} {es : List Ent} {w w' : World} (h : EntsAt bp ba es w) (hk : Keep (fun _ => False) w w') : EntsAt bp ba es w' := fun i hi => ⟨hk.cellA (fun h => h) (h i hi).1, hk.cellA (fun h => h) (h i hi).2⟩

/-- The same memory. -/
structure Same (w W : World) : Prop where
  heap : W.heap = w.heap
  os : W.os = w.os
  tape : W.tape = w.tape
  output : W.output = w.output
theorem Same.keep {w W : World} (h : Same w W) (m : Nat → Prop) : Keep m w W := ⟨h.os, h.tape, h.output, by rw [h.heap]; exact Nat.le_refl _, fun k _ _ => by rw [h.heap]⟩

theorem Ap.from {base : Nat} {v v' : Value} {w W w' : World} {xs : List UInt8} (h : Ap base v W xs v' w') (hk : Keep (fun _ => False) w W) : Ap base v w xs v' w' :=
  ⟨h.row, (hk.mono (fun _ h => h.elim)).trans h.kp, by
    rcases h.fr with hf | hf
    · exact Or.inl hf
    · exact Or.inr (fun k hk' => Nat.le_trans hk.size (hf k hk'))⟩

/-- string(b) of an own row. -/
theorem conv_own {w : World} {b n : Nat} {v : Value} {xs : List UInt8} (h : w.ownsRow b 5 1 v n (Lib.byteCells xs)) (hpos : 0 < xs.length) : (convert 51 9 v).run Tryd.prog w = .ok (.string ⟨xs.toArray⟩) w := by
  have hn : n = xs.length := by have := h.1; rw [Lib.byteCells_length] at this; omega
  subst hn
  rcases h.2 with ⟨_, h0⟩ | ⟨g, cap, cur, rfl, _, hg, _, _, _, htk⟩
  · omega
  · refine run_convert_bytes_back w 51 9 5 ⟨g, 0, none⟩ cap xs Tryd.underlying51 Tryd.underlying5 Tryd.underlying9 (fun j hj => ?_)
    rw [Addr.add_lit, Nat.zero_add, block_cell hg]
    have h1 : (cur.toList.take (xs.length * 1))[j]? = some (.int .u8 (xs[j].toNat : Int)) := by
      rw [htk]
      simp [Lib.byteCells, hj]
    rw [List.getElem?_take_of_lt (by omega), Array.getElem?_toList] at h1
    exact h1

set_option maxRecDepth 100000 in
set_option maxHeartbeats 8000000 in
theorem modelOne (bp ba : Nat) (es : List Ent) (w : World) (h : EntsAt bp ba es w) (hone : es.length = 1) (hsz : ∀ e ∈ es, e.1.size ≤ 1048576 ∧ e.2.size ≤ 1048600) :
    Calls Tryd.prog 13 #[.slice (some ⟨bp, 0, none⟩) es.length es.length, .slice (some ⟨ba, 0, none⟩) es.length es.length] w fun e w' => DeclPost es w e w' := by
  obtain ⟨i0, hi, hz0, hz1, hz2⟩ := infoByte
  have kc := fun (w : World) (C : Array Value) (n c : Nat) => Lib.run_convert_bytes_const (P := Tryd.prog) w 51 5 C n c Tryd.underlying51 Tryd.underlying5
  have HE := Lib.hid h
  have HSz := Lib.hid hsz
  clear h hsz
  obtain ⟨⟨P, Q⟩, hes⟩ := List.length_eq_one_iff.1 hone
  subst hes
  obtain ⟨hP, hQ⟩ := HSz.out (P, Q) (by simp)
  obtain ⟨cP, cQ⟩ := HE.out 0 (by simp)
  have cP : w.cell? ⟨bp, 0, none⟩ = some (.string P) := cP
  have cQ : w.cell? ⟨ba, 0, none⟩ = some (.string Q) := cQ
  have lP := World.block_lt_of_cell? w _ cP
  have lQ := World.block_lt_of_cell? w _ cQ
  obtain ⟨M, hM⟩ : ∃ M, M = w.heap.size := ⟨_, rfl⟩
  have hC : ∀ W, W.heap = (w.alloc (.cells #[.int .u8 105, .int .u8 109, .int .u8 112, .int .u8 111, .int .u8 114, .int .u8 116, .int .u8 32] 5 (7, 8))).heap → W.os = w.os → W.tape = w.tape → W.output = w.output →
      Calls Tryd.prog 26 #[.slice (some ⟨w.heap.size, 0, none⟩) 7 7, .string P, .string Q] W fun e w' => ∃ v', e = .returned v' ∧ Ap M (.slice none 0 0) w (import7 ++ lineB (P, Q)) v' w' := fun W e1 e2 e3 e4 => by
    have hk : Keep (fun _ => False) w W := by
      have h := (Keep.refl (fun _ => False) w).alloc (.cells #[.int .u8 105, .int .u8 109, .int .u8 112, .int .u8 111, .int .u8 114, .int .u8 116, .int .u8 32] 5 (7, 8))
      exact ⟨e2, e3, e4, by rw [e1]; exact h.size, fun k hk hm => by rw [e1]; exact h.block k hk hm⟩
    have hb : W.heap[w.heap.size]? = some (.cells #[.int .u8 105, .int .u8 109, .int .u8 112, .int .u8 111, .int .u8 114, .int .u8 116, .int .u8 32] 5 (7, 8)) := by rw [e1]; exact heap_alloc_new w _
    have h1 := appendLineF M ⟨w.heap.size, 0, none⟩ import7 P Q W (fun j u hj => by
      rw [Addr.add_lit, Nat.zero_add, block_cell hb, ← hj]
      rw [← Array.getElem?_toList]
      rfl) (by decide) hP hQ (by rw [hM]; exact hk.size)
    refine Calls.mono (show Calls Tryd.prog 26 #[.slice (some ⟨w.heap.size, 0, none⟩) 7 7, .string P, .string Q] W _ from h1) ?_
    rintro e w' ⟨v', rfl, ha⟩
    exact ⟨v', rfl, ha.from hk⟩
  have HC := Lib.hid hC
  have kc2 : (convert 51 51 (.slice (some ⟨w.heap.size, 0, none⟩) 7 7)).run Tryd.prog (w.alloc (.cells #[.int .u8 105, .int .u8 109, .int .u8 112, .int .u8 111, .int .u8 114, .int .u8 116, .int .u8 32] 5)).drew = .ok (.slice (some ⟨w.heap.size, 0, none⟩) 7 7) (w.alloc (.cells #[.int .u8 105, .int .u8 109, .int .u8 112, .int .u8 111, .int .u8 114, .int .u8 116, .int .u8 32] 5 (7, 8))).drew := kc w.drew #[.int .u8 105, .int .u8 109, .int .u8 112, .int .u8 111, .int .u8 114, .int .u8 116, .int .u8 32] 7 7
  have HM := Lib.hid hM
  clear hC HE HSz hM
  go_enter Tryd.func13, Tryd.ntmps13
  go_upto_region 5 with fail
  go_cut [6] from 25 to 33 (fun v wx => Ap M (.slice none 0 0) w (import7 ++ lineB (P, Q)) v wx)
  case first =>
    go_region_with (go_at_call 26; refine (HC.out _ ?_ ?_ ?_ ?_).mono ?_; rfl; rfl; rfl; rfl; rintro e1 w1 ⟨v', rfl, hap⟩)
    all_goals
      go_wp2_with fail
      go_meet
      exact hap
  case rest =>
  have hap := hcut
  obtain ⟨p1, c1, hv⟩ := slice_of_own hap.row
  subst hv
  obtain ⟨C1, hC1⟩ : ∃ C, C = import7 ++ lineB (P, Q) := ⟨_, rfl⟩
  rw [← hC1] at hap ⊢
  have hC1l : C1.length ≤ 3000000 := by
    have := lineS_size (P, Q) hP hQ
    rw [Lib.size_eq, lineS_data] at this
    rw [hC1, List.length_append]
    have e : import7.length = 7 := rfl
    omega
  have hsz1 := hap.kp.size
  have hMle : M ≤ wc.heap.size := by have := HM.out; omega
  have HAp := Lib.hid hap
  have HC1 := Lib.hid hC1
  clear hap hcut hC1 HC kc kc2
  go_wp2_with (at_builtin; refine wpList_append_fresh _ rfl _ _ 51 rfl M 5 i0 (.int .u8 0) 1 1 Tryd.underlying51 hi hz0 hz1 hz2 rfl (by decide) (.slice p1 C1.length c1) C1.length (Lib.byteCells C1) rfl (HAp.out.row.alloc _) ⟨wc.heap.size, 0, none⟩ 1 1 [Value.int .u8 10] rfl rfl (byte_new _ _ _) (by intro u hu; simp at hu; subst hu; rfl) (by unfold maxLen; omega) (by omega) (by simp; omega) ?_)
  intro v2 w2 g1 g2 g3
  have hA2 := HAp.out.step ((Keep.refl _ _).alloc _) (ys := [10]) rfl rfl g1 g2 g3
  have hcv := conv_own hA2.row (by simp)
  obtain ⟨p2, c2, hv⟩ := slice_of_own g1
  subst hv
  have HA2 := Lib.hid hA2
  clear g1 g2 g3 hA2
  go_wp2
  go_ret
  refine ⟨_, [(P, Q)], rfl, List.Perm.refl _, List.pairwise_singleton _ _, ?_, HA2.out.kp.mono (fun k hk => by cases hk)⟩
  rw [HC1.out]
  simp [declOf]
end Go.Proofs.Qxb6604462aDoor
