/-
  seat b6604462aD: slices.Concat of two rows of strings, walked (slices.Grow laid at this seat's translation by the kit's lay-plain).
-/
import Derived.Test.Qxb6604462aDoorQuote
import Derived.Shelf.Spec.SlicesGrow
import Derived.Laws.AppendOwnNone
namespace Go.Proofs
open Go.Shelf
set_option maxRecDepth 100000 in
def Tryd.laysGrow_ren : Go.Shelf.Ren := ⟨fun | 4 => 36 | n => n, fun | 22 => 23 | 25 => 9 | 3 => 3 | 4 => 4 | 9 => 9 | 20 => 20 | 0 => 0 | n => n, fun | n => n⟩
theorem Tryd.laysGrow : Go.Proofs.Lays8.n4 Tryd.prog Tryd.laysGrow_ren := {
  mixed := by kernel_rfl
  f4 := ⟨Tryd.f36.name, by decide, Tryd.func36.trans (congrArg some (by kernel_rfl))⟩
  t0 := Tryd.underlying0
  a0 := Tryd.isAgg0
  z0 := Tryd.sizeOf0
  v0 := Tryd.zeroValue0
  t3 := Tryd.underlying3
  a3 := Tryd.isAgg3
  z3 := Tryd.sizeOf3
  v3 := Tryd.zeroValue3
  t4 := Tryd.underlying4
  a4 := Tryd.isAgg4
  z4 := Tryd.sizeOf4
  v4 := Tryd.zeroValue4
  t9 := Tryd.underlying9
  a9 := Tryd.isAgg9
  z9 := Tryd.sizeOf9
  v9 := Tryd.zeroValue9
  t20 := Tryd.underlying20
  a20 := Tryd.isAgg20
  z20 := Tryd.sizeOf20
  v20 := Tryd.zeroValue20
  t22 := Tryd.underlying23
  a22 := Tryd.isAgg23
  z22 := Tryd.sizeOf23
  v22 := Tryd.zeroValue23 }
end Go.Proofs
namespace Go.Proofs.Qxb6604462aDoor
open Go Go.RowKit

theorem grow36 (n : Nat) (hn : 0 < n) (hl : n ≤ 2000) (w : World) : Calls Tryd.prog 36 #[.slice none 0 0, .int .i64 n] w fun e w' => (∃ v, e = .returned v ∧ w'.ownsRow w.heap.size 9 1 v 0 (strs [])) ∧ Keep (fun _ => False) w w' := by
  obtain ⟨i0, hi, hz0, hz1, hz2⟩ := infoStr
  have h := Any8.slices_Grow_grow Tryd.laysGrow i0 (.string ⟨#[]⟩) hi hz0 (by omega) none 0 0 n [] w (Nat.le_refl _) (by omega) (by rw [hz2]; omega) (by omega) (by simp) (fun _ => rfl) (fun a ha => by cases ha)
  refine Calls.mono (show Calls Tryd.prog 36 _ _ _ from h) ?_
  rintro e w' ⟨rfl, rfl⟩
  have hk : Keep (fun _ => False) w w.drew := (Keep.refl _ w).drew
  have hcap : 0 + n ≤ grownCap w (0 + n) 0 9 := grownCap_ge w _ _ _
  have hmax : grownCap w (0 + n) 0 9 ≤ maxLen := grownCap_le_maxLen w (0 + n) 0 9 (by unfold maxLen; omega)
  refine ⟨⟨_, rfl, ⟨rfl, Or.inr ⟨w.heap.size, _, _, rfl, Nat.le_refl _, heap_alloc_new w.drew _, Nat.zero_le _, hmax, ?_, rfl⟩⟩⟩, hk.alloc _⟩
  simp only [Array.size_append, size_zeroCells]
  show 0 + (0 + n - 0) * 1 + (grownCap w (0 + n) 0 9 - (0 + n)) * 1 = grownCap w (0 + n) 0 9 * 1
  omega

theorem row_cells {w : World} {N g n : Nat} {A : List ByteArray} {cur : Array Value} (hg : w.heap[g]? = some (.cells cur 9 (0, 0))) (hn : n = A.length) (htk : cur.toList.take (n * 1) = strs A) (W : World) (hW : Keep (fun k => N ≤ k) w W) (hgN : g < N) : ∀ j u, (strs A)[j]? = some u → W.cell? ((⟨g, 0, none⟩ : Addr).add j) = some u := fun j u hj => by
  have hj2 : j < A.length := by have := (List.getElem?_eq_some_iff.1 hj).1; simpa [strs] using this
  rw [Addr.add_lit, Nat.zero_add]
  refine hW.cellA (a := ⟨g, j, none⟩) (fun h => by have : N ≤ g := h; omega) ?_
  rw [block_cell hg]
  rw [← htk, List.getElem?_take_of_lt (by omega), Array.getElem?_toList] at hj
  exact hj

def ConcatPost (A B : List ByteArray) (w : World) (e : Ending) (w' : World) : Prop := (∃ v, e = .returned v ∧ w'.ownsRow w.heap.size 9 1 v (A ++ B).length (strs (A ++ B))) ∧ Keep (fun _ => False) w w'

set_option maxRecDepth 100000 in
set_option maxHeartbeats 4000000 in
theorem concat24 (h M c : Nat) (sv ov : Value) (A B : List ByteArray) (w : World) (hA : A.length ≤ 1000) (hB : B.length ≤ 1000) (hpos : 0 < A.length + B.length) (h0 : w.cell? ⟨h, 0, none⟩ = some sv) (h1 : w.cell? ⟨h, 1, none⟩ = some ov)
    (hs : w.ownsRow M 9 1 sv A.length (strs A)) (ho : w.ownsRow M 9 1 ov B.length (strs B)) :
    Calls Tryd.prog 24 #[.slice (some ⟨h, 0, none⟩) 2 c] w fun e w' => ConcatPost A B w e w' := by
  obtain ⟨i0, hi, hz0, hz1, hz2⟩ := infoStr
  obtain ⟨sp, sc, hsv⟩ := slice_of_own hs
  obtain ⟨op, oc, hov⟩ := slice_of_own ho
  subst hsv hov
  have HS := Lib.hid hs
  have HO := Lib.hid ho
  clear hs ho
  have CGr := grow36 (A.length + B.length) hpos (by omega) w
  have HGr := Lib.hid CGr
  clear CGr
  go_enter Tryd.func24, Tryd.ntmps24
  go_wp2_with fail
  go_loopg [3, 11] 2 (fun g x i wx => wx = w ∧ ∃ k : Nat, k + g = 2 ∧ i = .int .i64 k ∧ x = .int .i64 (((if 0 < k then A.length else 0) + (if 1 < k then B.length else 0) : Nat) : Int))
  case atStart => exact ⟨rfl, 0, rfl, rfl, rfl⟩
  case round =>
    obtain ⟨hw, k, hk, rfl, rfl⟩ := hrel
    have hw := hw.symm
    subst hw
    have hk3 : k = 0 ∨ k = 1 ∨ k = 2 := by omega
    rcases hk3 with rfl | rfl | rfl
    · simp only [Nat.lt_irrefl, if_false, Nat.not_lt_zero, Nat.add_zero]
      go_wp2
      go_roundg 1
      case measure => omega
      case rel => exact ⟨rfl, 1, rfl, by go_num, by simp⟩
    · simp only [Nat.lt_irrefl, if_false, Nat.zero_lt_one, if_true, Nat.add_zero]
      have hnn : ¬ ((A.length : Int) + (B.length : Int) < 0) := by omega
      go_wp2
      go_roundg 0
      case measure => omega
      case rel => exact ⟨rfl, 2, rfl, by go_num, by simp⟩
    · simp only [show (0 : Nat) < 2 by decide, show (1 : Nat) < 2 by decide, if_true]
      obtain ⟨T, hT⟩ : ∃ T, T = A.length + B.length := ⟨_, rfl⟩
      rw [← hT] at HGr ⊢
      clear hT
      go_wp2_with (go_at_call 36; refine HGr.out.mono ?_; rintro x w1 ⟨⟨v, rfl, hv⟩, hk1⟩; refine Hid.out ?_)
      refine Lib.hid ?_
      obtain ⟨vp, vc, hvv⟩ := slice_of_own hv
      subst hvv
      have HV := Lib.hid hv
      have HK1 := Lib.hid hk1
      clear hv hk1 HGr
      go_wp2_with fail
      go_loopg [6, 27] 2 (fun g x i wx => ∃ k : Nat, k + g = 2 ∧ i = .int .i64 k ∧ wx.ownsRow w.heap.size 9 1 x ((if 0 < k then A else []) ++ (if 1 < k then B else [])).length (strs ((if 0 < k then A else []) ++ (if 1 < k then B else []))) ∧ Keep (fun _ => False) w wx)
      case atStart => exact ⟨0, rfl, rfl, HV.out, HK1.out⟩
      case round =>
        obtain ⟨k, hk, rfl, hrow, hkp⟩ := hrel
        have hk3 : k = 0 ∨ k = 1 ∨ k = 2 := by omega
        have HKp := Lib.hid hkp
        have h0' := hkp.cellA (fun h => h) h0
        have h1' := hkp.cellA (fun h => h) h1
        have hsz := hkp.size
        clear hkp
        rcases hk3 with rfl | rfl | rfl
        · simp only [Nat.lt_irrefl, if_false, Nat.not_lt_zero, List.append_nil] at hrow
          obtain ⟨vp2, vc2, hxx⟩ := slice_of_own hrow
          subst hxx
          rcases HS.out.2 with ⟨hnil, hz⟩ | ⟨g1, cap1, cur1, hsl, hb1, hg1, hnc1, hcm1, hcs1, htk1⟩
          · injection hnil with e1 e2 e3
            subst e1 e3
            have hAe : A = [] := List.length_eq_zero_iff.1 hz
            rw [hz] at h0'
            have HRow := Lib.hid hrow
            clear hrow
            go_wp2_with (at_builtin; refine wpList_append_own_none rfl _ _ 23 rfl w.heap.size 9 i0 1 Tryd.underlying23 hi _ _ _ rfl HRow.out rfl ?_)
            go_wp2
            go_roundg 1
            case measure => omega
            case rel => exact ⟨1, rfl, by go_num, by have := HRow.out; simpa [hAe, strs] using this, HKp.out⟩
          · injection hsl with e1 e2 e3
            subst e1 e3
            have hnews := row_cells (N := w.heap.size) hg1 rfl htk1 wr (HKp.out.mono (fun _ h => h.elim)) (block_lt hg1)
            have HRow := Lib.hid hrow
            have HNews := Lib.hid hnews
            clear hrow hnews htk1 hcs1 hg1
            go_wp2_with (at_builtin; refine wpList_append_fresh _ rfl _ _ 23 rfl w.heap.size 9 i0 (.string ⟨#[]⟩) 1 16 Tryd.underlying23 hi hz0 hz1 hz2 rfl (by decide) _ _ _ rfl HRow.out ⟨g1, 0, none⟩ A.length _ (strs A) rfl (by simp [strs]) HNews.out (by intro u hu; obtain ⟨x, _, rfl⟩ := List.mem_map.1 hu; rfl) (by simp only [maxLen, List.length_nil]; omega) (by simp only [List.length_nil]; omega) (by omega) ?_)
            intro v1 w1 hown1 hgrow hfr
            obtain ⟨vp3, vc3, hxx⟩ := slice_of_own hown1
            subst hxx
            have HOwn := Lib.hid hown1
            have hkp3 : Keep (fun _ => False) w w1 := HKp.out.trans' (keep_grown hgrow) (fun j hj => Or.inr (HRow.out.lt j hj).1)
            have HK3 := Lib.hid hkp3
            clear hown1 hgrow hfr hkp3
            go_wp2
            go_roundg 1
            case measure => omega
            case rel => exact ⟨1, rfl, by go_num, by have := HOwn.out; simpa [strs] using this, HK3.out⟩
        · simp only [Nat.lt_irrefl, if_false, Nat.zero_lt_one, if_true, List.append_nil] at hrow
          obtain ⟨vp2, vc2, hxx⟩ := slice_of_own hrow
          subst hxx
          rcases HO.out.2 with ⟨hnil, hz⟩ | ⟨g1, cap1, cur1, hsl, hb1, hg1, hnc1, hcm1, hcs1, htk1⟩
          · injection hnil with e1 e2 e3
            subst e1 e3
            have hAe : B = [] := List.length_eq_zero_iff.1 hz
            rw [hz] at h1'
            have HRow := Lib.hid hrow
            clear hrow
            go_wp2_with (at_builtin; refine wpList_append_own_none rfl _ _ 23 rfl w.heap.size 9 i0 1 Tryd.underlying23 hi _ _ _ rfl HRow.out rfl ?_)
            go_wp2
            go_roundg 0
            case measure => omega
            case rel => exact ⟨2, rfl, by go_num, by have := HRow.out; simpa [hAe, strs] using this, HKp.out⟩
          · injection hsl with e1 e2 e3
            subst e1 e3
            have hnews := row_cells (N := w.heap.size) hg1 rfl htk1 wr (HKp.out.mono (fun _ h => h.elim)) (block_lt hg1)
            have HRow := Lib.hid hrow
            have HNews := Lib.hid hnews
            clear hrow hnews htk1 hcs1 hg1
            go_wp2_with (at_builtin; refine wpList_append_fresh _ rfl _ _ 23 rfl w.heap.size 9 i0 (.string ⟨#[]⟩) 1 16 Tryd.underlying23 hi hz0 hz1 hz2 rfl (by decide) _ _ _ rfl HRow.out ⟨g1, 0, none⟩ B.length _ (strs B) rfl (by simp [strs]) HNews.out (by intro u hu; obtain ⟨x, _, rfl⟩ := List.mem_map.1 hu; rfl) (by simp only [maxLen]; omega) (by omega) (by omega) ?_)
            intro v1 w1 hown1 hgrow hfr
            obtain ⟨vp3, vc3, hxx⟩ := slice_of_own hown1
            subst hxx
            have HOwn := Lib.hid hown1
            have hkp3 : Keep (fun _ => False) w w1 := HKp.out.trans' (keep_grown hgrow) (fun j hj => Or.inr (HRow.out.lt j hj).1)
            have HK3 := Lib.hid hkp3
            clear hown1 hgrow hfr hkp3
            go_wp2
            go_roundg 0
            case measure => omega
            case rel => exact ⟨2, rfl, by go_num, by have := HOwn.out; simpa [strs] using this, HK3.out⟩
        · simp only [show (0 : Nat) < 2 by decide, show (1 : Nat) < 2 by decide, if_true] at hrow
          obtain ⟨xp, xc, hxx⟩ := slice_of_own hrow
          subst hxx
          have HRow := Lib.hid hrow
          clear hrow
          go_wp2
          go_ret
          exact ⟨⟨_, rfl, HRow.out⟩, HKp.out⟩
end Go.Proofs.Qxb6604462aDoor
