/-
  seat b6604462aD: which paths are the standard library's: the law's test and the program's, walked.
-/
import Derived.Test.Qxb6604462aDoorMem
namespace Go.Proofs.Qxb6604462aDoor
open Go Go.RowKit

theorem stdB_nil : stdB [] = true := rfl
theorem stdB_slash (l : List UInt8) : stdB (47 :: l) = true := by simp [stdB]
theorem stdB_dot (l : List UInt8) : stdB (46 :: l) = false := by simp [stdB]
theorem stdB_other {b : UInt8} (l : List UInt8) (h1 : b ≠ 47) (h2 : b ≠ 46) : stdB (b :: l) = stdB l := by
  unfold stdB
  rw [List.takeWhile_cons, if_pos (by simpa using h1), List.contains_cons]
  have : ((46 : UInt8) == b) = false := by simpa using fun e => h2 e.symm
  rw [this, Bool.false_or]

set_option maxRecDepth 100000 in
set_option maxHeartbeats 2000000 in
theorem zzStandard (t : ByteArray) (w : World) (ht : t.size ≤ 2000000) : Calls Tryd.prog 27 #[.string t] w fun e w' => e = .returned (.bool (stdB t.data.toList)) ∧ w' = w := by
  have HA := Lib.hid (at_ t)
  go_enter Tryd.func27, Tryd.ntmps27
  go_wp2_with fail
  go_loopg [3] t.size (fun g i wx => wx = w ∧ ∃ k : Nat, i = .int .i64 k ∧ k + g = t.size ∧ stdB (t.data.toList.drop k) = stdB t.data.toList)
  case atStart => exact ⟨rfl, 0, rfl, by omega, by rw [List.drop_zero]⟩
  case round =>
    obtain ⟨rfl, k, rfl, hk, hnb⟩ := hrel
    have HK := Lib.hid hk
    have HNb := Lib.hid hnb
    clear hnb hk
    by_cases hkn : k < t.size
    · have hcons : t.data.toList.drop k = t[k] :: t.data.toList.drop (k + 1) := by
        rw [List.drop_eq_getElem_cons (by rw [← Lib.size_eq]; exact hkn)]
        congr 1
      have hki : (k : Int) < (t.size : Int) := by omega
      by_cases hb : t[k] = 47
      · have hbi : (t[k].toNat : Int) = 47 := by rw [hb]; rfl
        have hbn := bne_no hbi
        have hres : stdB t.data.toList = true := by rw [← HNb.out, hcons, hb]; exact stdB_slash _
        have HRes := Lib.hid hres
        clear hcons hres hb
        go_wp2
        go_ret
        exact ⟨by rw [HRes.out]; rfl, rfl⟩
      have hbi : (t[k].toNat : Int) ≠ 47 := fun h => hb (byte_eq (c := 47) h)
      have hbn := bne_yes hbi
      by_cases hd : t[k] = 46
      · have hdi : (t[k].toNat : Int) = 46 := by rw [hd]; rfl
        have hdn := beq_yes hdi
        have hres : stdB t.data.toList = false := by rw [← HNb.out, hcons, hd]; exact stdB_dot _
        have HRes := Lib.hid hres
        clear hcons hres hb hd
        go_wp2
        go_ret
        exact ⟨by rw [HRes.out]; rfl, rfl⟩
      · have hdi : (t[k].toNat : Int) ≠ 46 := fun h => hd (byte_eq (c := 46) h)
        have hdn := beq_no hdi
        have hnext : stdB (t.data.toList.drop (k + 1)) = stdB t.data.toList := by rw [← HNb.out, hcons]; exact (stdB_other _ hb hd).symm
        have HNext := Lib.hid hnext
        clear hcons hnext hb hd
        go_wp2
        go_roundg (gk - 1)
        case measure => have := HK.out; omega
        case rel => exact ⟨rfl, k + 1, by go_num, by have := HK.out; omega, HNext.out⟩
    · have hki : ¬ (k : Int) < (t.size : Int) := by omega
      have hres : stdB t.data.toList = true := by
        rw [← HNb.out, List.drop_eq_nil_iff.2 (by rw [← Lib.size_eq]; omega)]
        rfl
      have HRes := Lib.hid hres
      clear hres
      go_wp2
      go_ret
      exact ⟨by rw [HRes.out]; rfl, rfl⟩

theorem index_cases (c : UInt8) : ∀ l : List UInt8, (Lib.indexByte l c = -1 ∧ l.takeWhile (fun b => b != c) = l ∧ l.contains c = false) ∨ ∃ i : Nat, Lib.indexByte l c = i ∧ i < l.length ∧ l.takeWhile (fun b => b != c) = l.take i ∧ l.contains c = true
  | [] => Or.inl ⟨rfl, rfl, rfl⟩
  | b :: l => by
    unfold Lib.indexByte
    by_cases h : b = c
    · right
      subst h
      exact ⟨0, by simp, by simp, by simp, by simp⟩
    · have h1 : (b == c) = false := by simpa using h
      have h2 : (b != c) = true := by simpa using h
      have h3 : (c == b) = false := by simpa using fun e => h e.symm
      rcases index_cases c l with ⟨e1, e2, e3⟩ | ⟨i, e1, e2, e3, e4⟩
      · left
        refine ⟨by simp [h1, e1], by rw [List.takeWhile_cons, if_pos h2, e2], by rw [List.contains_cons, h3, e3]; rfl⟩
      · right
        refine ⟨i + 1, ?_, by simp; omega, by rw [List.takeWhile_cons, if_pos h2, e3]; rfl, by rw [List.contains_cons, e4]; simp⟩
        rw [h1, e1]
        have : ((i : Int) == -1) = false := by simp
        simp [this]

theorem contains_decide (l : List UInt8) (c : UInt8) : decide (0 ≤ Lib.indexByte l c) = l.contains c := by
  rcases index_cases c l with ⟨e1, _, e3⟩ | ⟨i, e1, _, _, e4⟩
  · rw [e1, e3]; rfl
  · rw [e1, e4]; simp

/-- strings.Cut(t, "/"): its first result. -/
def firstOf (t : ByteArray) : List UInt8 := t.data.toList.takeWhile (fun b => b != 47)
def CutPost (t : ByteArray) (w : World) (e : Ending) (w' : World) : Prop := (∃ (u v : ByteArray) (b : Bool), e = .returned (.tuple #[.string u, .string v, .bool b]) ∧ u.data.toList = firstOf t) ∧ ∃ q, w' = w.drewN q

set_option maxRecDepth 100000 in
set_option maxHeartbeats 2000000 in
theorem cut53 (t : ByteArray) (w : World) (ht : t.size ≤ 2000000) : Calls Tryd.prog 53 #[.string t, .string ⟨#[47]⟩] w fun e w' => CutPost t w e w' := by
  have CI := Tryd.stringslite_Index_one t 47 w
  rcases index_cases 47 t.data.toList with ⟨e1, e2, _⟩ | ⟨i, e1, e2, e3, _⟩
  · have hres : t.data.toList = firstOf t := e2.symm
    rw [e1] at CI
    have HCI := Lib.hid CI
    have HRes := Lib.hid hres
    clear CI e1 e2 hres
    go_enter Tryd.func53, Tryd.ntmps53
    go_wp2_with (go_at_call 65; refine HCI.out.mono ?_; rintro x w1 ⟨rfl, hw⟩; have hw := hw.symm; subst hw)
    go_ret3
    exact ⟨⟨_, _, _, rfl, HRes.out⟩, 0, rfl⟩
  · have e2' : i < t.size := by rw [Lib.size_eq]; exact e2
    have hii : (i : Int) ≤ (t.size : Int) := by omega
    have hres : (t.extract 0 i).data.toList = firstOf t := by
      unfold firstOf
      rw [e3, Lib.extract_data, List.drop_zero, Nat.sub_zero]
    rw [e1] at CI
    have HCI := Lib.hid CI
    have HRes := Lib.hid hres
    clear CI e1 e2 e3 hres
    go_enter Tryd.func53, Tryd.ntmps53
    go_upto_region 3 with (go_at_call 65; refine HCI.out.mono ?_; rintro x w1 ⟨rfl, hw⟩; have hw := hw.symm; subst hw)
    go_quiet (fail)
    go_wp2
    go_ret3
    exact ⟨⟨_, _, _, rfl, HRes.out⟩, _, rfl⟩

set_option maxRecDepth 100000 in
set_option maxHeartbeats 2000000 in
theorem isStandard (t : ByteArray) (w : World) (ht : t.size ≤ 2000000) : Calls Tryd.prog 23 #[.string t] w fun e w' => e = .returned (.bool (stdB t.data.toList)) ∧ ∃ q, w' = w.drewN q := by
  have C34 : Calls Tryd.prog 34 #[.string t, .string ⟨#[47]⟩] w fun e w' => CutPost t w e w' := by
    go_enter Tryd.func34, Tryd.ntmps34
    go_wp2_with (go_at_call 53; refine (cut53 t w ht).mono ?_; rintro x w1 ⟨⟨u, v, b, rfl, hu⟩, q, rfl⟩; have HU := Lib.hid hu; clear hu)
    go_ret3
    exact ⟨⟨_, _, _, rfl, HU.out⟩, q, rfl⟩
  have HC := Lib.hid C34
  clear C34
  go_enter Tryd.func23, Tryd.ntmps23
  go_wp2_with (first | (go_at_call 34; refine HC.out.mono ?_; rintro x w1 ⟨⟨u, v, b, rfl, hu⟩, q, rfl⟩; have HU := Lib.hid hu; clear hu) | (go_at_call 35; refine (Tryd.strings_Contains_one _ 46 _).mono ?_; rintro x w1 ⟨rfl, hw⟩; have hw := hw.symm; subst hw; rw [contains_decide]; generalize hcb : List.contains u.data.toList 46 = cb; have HCb := Lib.hid hcb; clear hcb))
  go_ret
  refine ⟨?_, q, rfl⟩
  unfold stdB
  rw [show List.takeWhile (fun b => b != 47) t.data.toList = u.data.toList from HU.out.symm, HCb.out]
  rfl
end Go.Proofs.Qxb6604462aDoor
