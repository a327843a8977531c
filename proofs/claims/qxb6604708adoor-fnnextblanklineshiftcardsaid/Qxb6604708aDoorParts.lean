/-
  seat b6604708aD: the law's own small functions: zzNonBlank, zzKeep, zzEqBS, walked.
-/
import Derived.Test.Qxb6604708aDoorNew
namespace Go.Proofs.Qxb6604708aDoor
open Go Go.RowKit

theorem at_ (s : ByteArray) (i : Nat) (h : i < s.size) : s.data.toList[i]? = some s[i] := by
  rw [Array.getElem?_toList]
  exact Array.getElem?_eq_getElem h

theorem bne_yes {a b : Int} (h : a ≠ b) : (a != b) = true := by simp [h]
theorem bne_no {a b : Int} (h : a = b) : (a != b) = false := by simp [h]
theorem beq_yes {a b : Int} (h : a = b) : (a == b) = true := by simp [h]
theorem beq_no {a b : Int} (h : a ≠ b) : (a == b) = false := by simp [h]
theorem byte_eq {b c : UInt8} (h : (b.toNat : Int) = (c.toNat : Int)) : b = c := UInt8.toNat_inj.1 (by omega)

set_option maxRecDepth 100000 in
set_option maxHeartbeats 2000000 in
theorem zzNonBlank (t : ByteArray) (w : World) (ht : t.size ≤ 2000000) : Calls Tryd.prog 19 #[.string t] w fun e w' => e = .returned (.bool (nonBlank t.data.toList)) ∧ w' = w := by
  have HA := Lib.hid (at_ t)
  have hsz := Lib.size_eq t
  have HSz := Lib.hid hsz
  clear hsz
  go_enter Tryd.func19, Tryd.ntmps19
  go_wp2_with fail
  go_loopg [3] t.size (fun g i wx => wx = w ∧ ∃ k : Nat, i = .int .i64 k ∧ k + g = t.size ∧ nonBlank (t.data.toList.drop k) = nonBlank t.data.toList)
  case atStart => exact ⟨rfl, 0, rfl, by omega, by rw [List.drop_zero]⟩
  case round =>
    obtain ⟨rfl, k, rfl, hk, hnb⟩ := hrel
    have HK := Lib.hid hk
    have HNb := Lib.hid hnb
    clear hnb hk
    by_cases hkn : k < t.size
    · have hcons : t.data.toList.drop k = t[k] :: t.data.toList.drop (k + 1) := by
        rw [List.drop_eq_getElem_cons (by rw [← Lib.size_eq]; exact hkn)]
        congr 1
      by_cases hb : t[k] = 32
      · have hbi : (t[k].toNat : Int) = 32 := by rw [hb]; rfl
        have hbn := bne_no hbi
        have hnext : nonBlank (t.data.toList.drop (k + 1)) = nonBlank t.data.toList := by
          rw [← HNb.out, hcons, hb]
          simp [nonBlank]
        have HNext := Lib.hid hnext
        clear hcons hnext hb
        go_wp2
        go_roundg (gk - 1)
        case measure => have := HK.out; omega
        case rel => exact ⟨rfl, k + 1, by go_num, by have := HK.out; omega, HNext.out⟩
      · have hbi : (t[k].toNat : Int) ≠ 32 := fun h => hb (byte_eq (c := 32) h)
        have hbn := bne_yes hbi
        have hres : nonBlank t.data.toList = true := by
          rw [← HNb.out, hcons]
          simp [nonBlank, hb]
        have HRes := Lib.hid hres
        clear hcons hres hb
        go_wp2
        go_ret
        exact ⟨by rw [HRes.out]; rfl, rfl⟩
    · have hres : nonBlank t.data.toList = false := by
        rw [← HNb.out, List.drop_eq_nil_iff.2 (by rw [← Lib.size_eq]; omega)]
        rfl
      have HRes := Lib.hid hres
      clear hres
      go_wp2
      go_ret
      exact ⟨by rw [HRes.out]; rfl, rfl⟩

set_option maxRecDepth 100000 in
set_option maxHeartbeats 1000000 in
theorem zzKeep (t : ByteArray) (limit : Int) (L : Nat) (w : World) (ht : t.size ≤ 2000000) (hL : L = (limit + 1).toNat) (hl1 : -9223372036854775808 ≤ limit) (hl2 : limit < 9223372036854775807) :
    Calls Tryd.prog 15 #[.string t, .int .i64 limit] w fun e w' => (∃ u : ByteArray, e = .returned (.string u) ∧ u.data.toList = t.data.toList.take L ∧ u.size ≤ 2000000) ∧ w' = w := by
  have HL := Lib.hid hL
  clear hL
  by_cases hneg : limit < 0
  · go_enter Tryd.func15, Tryd.ntmps15
    go_wp2
    go_ret
    exact ⟨⟨_, rfl, by have := HL.out; rw [show L = 0 by omega]; rfl, by decide⟩, rfl⟩
  · obtain ⟨m, rfl⟩ : ∃ m : Nat, limit = m := ⟨limit.toNat, by omega⟩
    by_cases hlen : m + 1 < t.size
    · have h1 : ((m : Int) + 1) < (t.size : Int) := by omega
      go_enter Tryd.func15, Tryd.ntmps15
      go_wp2
      go_ret
      refine ⟨⟨_, rfl, ?_, ?_⟩, rfl⟩
      · have := HL.out
        rw [Lib.extract_data, List.drop_zero, show L = m + 1 by omega]
        simp
      · rw [Lib.size_eq, Lib.extract_data, List.length_take]
        have := HL.out
        simp
        omega
    · have h1 : ¬ ((m : Int) + 1) < (t.size : Int) := by omega
      go_enter Tryd.func15, Tryd.ntmps15
      go_wp2
      go_ret
      refine ⟨⟨_, rfl, ?_, ht⟩, rfl⟩
      have := HL.out
      rw [List.take_of_length_le (by rw [← Lib.size_eq]; omega)]

set_option maxRecDepth 100000 in
set_option maxHeartbeats 2000000 in
theorem zzEqBS (p : Option Addr) (n c : Nat) (u : ByteArray) (w : World) (hn : n = u.size) (hb : n ≤ 2000000) (hin : Lib.BytesIn w p n (u.data.toList.map fun b => (b.toNat : Int))) :
    Calls Tryd.prog 11 #[.slice p n c, .string u] w fun e w' => e = .returned (.bool true) ∧ ∃ q, w' = w.drewN q := by
  subst hn
  have hlen : ((u.size : Int) != (u.size : Int)) = false := bne_no rfl
  have HIn := Lib.hid hin
  have HA := Lib.hid (at_ u)
  clear hin
  go_enter Tryd.func11, Tryd.ntmps11
  go_wp2_with fail
  go_loopg [5] u.size (fun g i wx => (∃ q, wx = w.drewN q) ∧ ∃ k : Nat, i = .int .i64 k ∧ k + g = u.size)
  case atStart => exact ⟨⟨0, rfl⟩, 0, rfl, by omega⟩
  case round =>
    obtain ⟨⟨q, rfl⟩, k, rfl, hk⟩ := hrel
    have HK := Lib.hid hk
    clear hk
    by_cases hkn : k < u.size
    · obtain ⟨b, o, rfl, hcell⟩ := HIn.out (by omega)
      have hc := hcell k hkn
      rw [nums_getD, List.getD_eq_getElem?_getD, HA.out k hkn] at hc
      have hc' : w.cell? ⟨b, o + k, none⟩ = some (.int .u8 u[k].toNat) := hc
      have hbn : ((u[k].toNat : Int) != (u[k].toNat : Int)) = false := bne_no rfl
      have hki : (k : Int) < (u.size : Int) := by omega
      clear hc hcell
      go_upto_region 6 with fail
      go_quiet (fail)
      go_wp2
      go_roundg (gk - 1)
      case measure => have := HK.out; omega
      case rel => exact ⟨⟨_, rfl⟩, k + 1, by go_num, by have := HK.out; omega⟩
    · have hki : ¬ (k : Int) < (u.size : Int) := by omega
      go_wp2
      go_ret
      exact ⟨rfl, _, rfl⟩
end Go.Proofs.Qxb6604708aDoor
