/-
  seat b6604462aD: the law's own small functions that only read, walked.
-/
import Derived.Test.Qxb6604462aDoorProg
import Derived.Test.Qxb6604462aDoorPlain
import Derived.WalkKit
import Derived.WalkLawsBesides
import Derived.WalkSpells
import Derived.Outline
import Derived.Deep.Cut
import Derived.Deep.CutRange
import Derived.Deep.QuietTactic
import Derived.BigQuiet
import Derived.Deep.RegionLaw
import Derived.BigRegion
import Derived.Deep.LoopGhost
import Derived.Handy
import Derived.Lib.Hide
import Derived.Lib.IndexBytes
namespace Go.Proofs.Qxb6604462aDoor
open Go Go.RowKit

theorem at_ (s : ByteArray) (i : Nat) (h : i < s.size) : s.data.toList[i]? = some s[i] := by
  rw [Array.getElem?_toList]
  exact Array.getElem?_eq_getElem h

theorem bne_yes {a b : Int} (h : a ≠ b) : (a != b) = true := by simp [h]
theorem bne_no {a b : Int} (h : a = b) : (a != b) = false := by simp [h]
theorem beq_yes {a b : Int} (h : a = b) : (a == b) = true := by simp [h]
theorem beq_no {a b : Int} (h : a ≠ b) : (a == b) = false := by simp [h]
theorem byte_eq {b c : UInt8} (h : (b.toNat : Int) = (c.toNat : Int)) : b = c := UInt8.toNat_inj.1 (by omega)

theorem str_eq {y x : ByteArray} (h : y.data.toList = x.data.toList) : y = x := by
  cases y; cases x
  simp at h
  rw [h]
theorem str_no {y x : ByteArray} (h : y ≠ x) : (y.toList == x.toList) = false := by
  rw [ByteArray.toList_eq, ByteArray.toList_eq]
  simpa using fun e => h (str_eq (by simpa using e))
theorem str_yes {y x : ByteArray} (h : y = x) : (y.toList == x.toList) = true := by simp [h]

/-- A slice of structs of two strings: the pairs it reads as. -/
def Imps (w : World) (p : Option Addr) (es : List Ent) : Prop := ∀ i (h : i < es.length), ∃ a, p = some a ∧ w.cell? (a.add (i * 2)) = some (.string es[i].1) ∧ w.cell? ⟨(a.add (i * 2)).block, (a.add (i * 2)).off + 1, none⟩ = some (.string es[i].2)
/-- A slice of strings. -/
def Strs (w : World) (p : Option Addr) (ss : List ByteArray) : Prop := ∀ i (h : i < ss.length), ∃ a, p = some a ∧ w.cell? (a.add i) = some (.string ss[i])

set_option maxRecDepth 100000 in
set_option maxHeartbeats 2000000 in
/-- zzContainsB1. -/
theorem zzContains (p : Option Addr) (c : Nat) (ss : List ByteArray) (x : ByteArray) (w : World) (hl : ss.length ≤ 2000000) (hs : Strs w p ss) :
    Calls Tryd.prog 11 #[.slice p ss.length c, .string x] w fun e w' => e = .returned (.bool (Lib.containsS ss x)) ∧ w' = w := by
  have HS := Lib.hid hs
  clear hs
  go_enter Tryd.func11, Tryd.ntmps11
  go_wp2_with fail
  go_loopg [5] ss.length (fun g i wx => wx = w ∧ ∃ k : Nat, i = .int .i64 k ∧ k + g = ss.length ∧ Lib.containsS (ss.drop k) x = Lib.containsS ss x)
  case atStart => exact ⟨rfl, 0, rfl, by omega, by rw [List.drop_zero]⟩
  case round =>
    obtain ⟨rfl, k, rfl, hk, hnb⟩ := hrel
    have HK := Lib.hid hk
    have HNb := Lib.hid hnb
    clear hnb hk
    by_cases hkn : k < ss.length
    · have hcons : ss.drop k = ss[k] :: ss.drop (k + 1) := List.drop_eq_getElem_cons hkn
      obtain ⟨a, rfl, hc⟩ := HS.out k hkn
      have hki : (k : Int) < (ss.length : Int) := by omega
      obtain ⟨y, hy⟩ : ∃ y, y = ss[k] := ⟨_, rfl⟩
      rw [← hy] at hc hcons
      clear hy
      by_cases hb : y = x
      · have hres : Lib.containsS ss x = true := by rw [← HNb.out, hcons, hb, Lib.containsS_iff]; simp
        have HRes := Lib.hid hres
        clear hcons hres
        subst hb
        go_wp2
        go_ret
        exact ⟨by rw [HRes.out]; rfl, rfl⟩
      · have hres : Lib.containsS (ss.drop (k + 1)) x = Lib.containsS ss x := by
          rw [← HNb.out, hcons, Bool.eq_iff_iff, Lib.containsS_iff, Lib.containsS_iff, List.mem_cons]
          exact ⟨fun h => Or.inr h, fun h => h.elim (fun e => absurd e.symm hb) id⟩
        have HRes := Lib.hid hres
        have hb1 := str_no hb
        clear hcons hres hb
        go_wp2
        go_roundg (gk - 1)
        case measure => have := HK.out; omega
        case rel => exact ⟨rfl, k + 1, by go_num, by have := HK.out; omega, HRes.out⟩
    · have hres : Lib.containsS ss x = false := by
        rw [← HNb.out, List.drop_eq_nil_iff.2 (by omega)]
        rfl
      have HRes := Lib.hid hres
      have hki : ¬ (k : Int) < (ss.length : Int) := by omega
      clear hres
      go_wp2
      go_ret
      exact ⟨by rw [HRes.out]; rfl, rfl⟩

/-- All lengths are small. -/
def SmallAll (es : List Ent) (ds : List ByteArray) : Prop := es.length ≤ 1048576 ∧ ds.length ≤ 1048576 ∧ (∀ i (h : i < es.length), es[i].1.size ≤ 1048576 ∧ es[i].2.size ≤ 1048576) ∧ ∀ i (h : i < ds.length), ds[i].size ≤ 1048576
def BytesPost (es : List Ent) (ds : List ByteArray) (e : Ending) : Prop := ∃ b, e = .returned (.bool b) ∧ (b = true → SmallAll es ds)

set_option maxRecDepth 100000 in
set_option maxHeartbeats 4000000 in
/-- zzBytes_FnImportDeclExact: whatever it answers, it answers; yes only where all lengths are small. -/
theorem zzBytes4 (p pd : Option Addr) (c cd : Nat) (es : List Ent) (ds : List ByteArray) (w : World) (hi : Imps w p es) (hd : Strs w pd ds) :
    Calls Tryd.prog 4 #[.slice p es.length c, .slice pd ds.length cd] w fun e w' => BytesPost es ds e ∧ w' = w := by
  have HI := Lib.hid hi
  have HD := Lib.hid hd
  clear hi hd
  rcases Nat.lt_or_ge 1048576 (es.length) with hne | hne
  · have h1 : (1048576 : Int) < (es.length : Int) := by omega
    go_enter Tryd.func4, Tryd.ntmps4
    go_wp2
    go_ret
    exact ⟨⟨false, rfl, fun h => by cases h⟩, rfl⟩
  have h1 : ¬ (1048576 : Int) < (es.length : Int) := by omega
  go_enter Tryd.func4, Tryd.ntmps4
  go_wp2_with fail
  go_loopg [5, 6] es.length (fun g z i wx => wx = w ∧ ∃ (k y : Nat), i = .int .i64 k ∧ z = .int .i64 y ∧ y ≤ 1048576 ∧ k + g = es.length ∧ ∀ i (h : i < es.length), i < k → es[i].1.size ≤ 1048576 ∧ es[i].2.size ≤ 1048576)
  case atStart => exact ⟨rfl, 0, es.length, rfl, by go_num, hne, by omega, fun i _ h => by omega⟩
  case round =>
    obtain ⟨rfl, k, y, rfl, rfl, hy, hk, hall⟩ := hrel
    have HK := Lib.hid hk
    have HAll := Lib.hid hall
    clear hk hall
    by_cases hkn : k < es.length
    · obtain ⟨a, rfl, hc1, hc2⟩ := HI.out k hkn
      have hki : (k : Int) < (es.length : Int) := by omega
      obtain ⟨u, hu⟩ : ∃ u, u = es[k].1 := ⟨_, rfl⟩
      obtain ⟨v, hv⟩ : ∃ v, v = es[k].2 := ⟨_, rfl⟩
      rw [← hu] at hc1
      rw [← hv] at hc2
      have HUV := Lib.hid (And.intro hu hv)
      clear hu hv
      rcases Nat.lt_or_ge 1048576 (u.size) with q1 | q1
      · have q1' : (1048576 : Int) < (u.size : Int) := by omega
        go_wp2
        go_ret
        exact ⟨⟨false, rfl, fun h => by cases h⟩, rfl⟩
      have q1' : ¬ (1048576 : Int) < (u.size : Int) := by omega
      rcases Nat.lt_or_ge 1048576 (y + u.size) with q2 | q2
      · have q2' : (1048576 : Int) < (y : Int) + (u.size : Int) := by omega
        go_wp2
        go_ret
        exact ⟨⟨false, rfl, fun h => by cases h⟩, rfl⟩
      have q2' : ¬ (1048576 : Int) < (y : Int) + (u.size : Int) := by omega
      rcases Nat.lt_or_ge 1048576 (v.size) with q3 | q3
      · have q3' : (1048576 : Int) < (v.size : Int) := by omega
        go_wp2
        go_ret
        exact ⟨⟨false, rfl, fun h => by cases h⟩, rfl⟩
      have q3' : ¬ (1048576 : Int) < (v.size : Int) := by omega
      rcases Nat.lt_or_ge 1048576 (y + u.size + v.size) with q4 | q4
      · have q4' : (1048576 : Int) < (y : Int) + (u.size : Int) + (v.size : Int) := by omega
        go_wp2
        go_ret
        exact ⟨⟨false, rfl, fun h => by cases h⟩, rfl⟩
      have q4' : ¬ (1048576 : Int) < (y : Int) + (u.size : Int) + (v.size : Int) := by omega
      go_wp2
      go_roundg (gk - 1)
      case measure => have := HK.out; omega
      case rel =>
        refine ⟨rfl, k + 1, y + u.size + v.size, by go_num, by go_num, q4, by have := HK.out; omega, fun i h hi => ?_⟩
        by_cases hik : i = k
        · subst hik
          rw [← HUV.out.1, ← HUV.out.2]
          exact ⟨q1, q3⟩
        · exact HAll.out i h (by omega)
    · have hki : ¬ (k : Int) < (es.length : Int) := by omega
      have hall1 : ∀ i (h : i < es.length), es[i].1.size ≤ 1048576 ∧ es[i].2.size ≤ 1048576 := fun i h => HAll.out i h (by omega)
      have HAll1 := Lib.hid hall1
      clear hall1
      rcases Nat.lt_or_ge 1048576 (ds.length) with hnd | hnd
      · have h2 : (1048576 : Int) < (ds.length : Int) := by omega
        go_wp2
        go_ret
        exact ⟨⟨false, rfl, fun h => by cases h⟩, rfl⟩
      have h2 : ¬ (1048576 : Int) < (ds.length : Int) := by omega
      rcases Nat.lt_or_ge 1048576 (y + ds.length) with h3 | h3
      · have h3' : (1048576 : Int) < (y : Int) + (ds.length : Int) := by omega
        go_wp2
        go_ret
        exact ⟨⟨false, rfl, fun h => by cases h⟩, rfl⟩
      have h3' : ¬ (1048576 : Int) < (y : Int) + (ds.length : Int) := by omega
      go_wp2_with fail
      go_loopg [5, 7] ds.length (fun g z i wx => wx = wr ∧ ∃ (k y : Nat), i = .int .i64 k ∧ z = .int .i64 y ∧ y ≤ 1048576 ∧ k + g = ds.length ∧ ∀ i (h : i < ds.length), i < k → ds[i].size ≤ 1048576)
      case atStart => exact ⟨rfl, 0, y + ds.length, rfl, by go_num, h3, by omega, fun i _ h => by omega⟩
      case round =>
        obtain ⟨rfl, k2, y2, rfl, rfl, hy2, hk2, hall2⟩ := hrel
        have HK2 := Lib.hid hk2
        have HAll2 := Lib.hid hall2
        clear hk2 hall2
        by_cases hkn2 : k2 < ds.length
        · obtain ⟨a, rfl, hc1⟩ := HD.out k2 hkn2
          have hki2 : (k2 : Int) < (ds.length : Int) := by omega
          obtain ⟨u, hu⟩ : ∃ u, u = ds[k2] := ⟨_, rfl⟩
          rw [← hu] at hc1
          have HUV := Lib.hid hu
          clear hu
          rcases Nat.lt_or_ge 1048576 (u.size) with q1 | q1
          · have q1' : (1048576 : Int) < (u.size : Int) := by omega
            go_wp2
            go_ret
            exact ⟨⟨false, rfl, fun h => by cases h⟩, rfl⟩
          have q1' : ¬ (1048576 : Int) < (u.size : Int) := by omega
          rcases Nat.lt_or_ge 1048576 (y2 + u.size) with q2 | q2
          · have q2' : (1048576 : Int) < (y2 : Int) + (u.size : Int) := by omega
            go_wp2
            go_ret
            exact ⟨⟨false, rfl, fun h => by cases h⟩, rfl⟩
          have q2' : ¬ (1048576 : Int) < (y2 : Int) + (u.size : Int) := by omega
          go_wp2
          go_roundg (gk - 1)
          case measure => have := HK2.out; omega
          case rel =>
            refine ⟨rfl, k2 + 1, y2 + u.size, by go_num, by go_num, q2, by have := HK2.out; omega, fun i h hi => ?_⟩
            by_cases hik : i = k2
            · subst hik
              rw [← HUV.out]
              exact q1
            · exact HAll2.out i h (by omega)
        · have hki2 : ¬ (k2 : Int) < (ds.length : Int) := by omega
          go_wp2
          go_ret
          exact ⟨⟨true, rfl, fun _ => ⟨hne, hnd, HAll1.out, fun i h => HAll2.out i h (by omega)⟩⟩, rfl⟩

set_option maxRecDepth 100000 in
set_option maxHeartbeats 4000000 in
/-- zzImpBytesB1: a number. -/
theorem zzImpBytes (p pd : Option Addr) (c cd : Nat) (es : List Ent) (ds : List ByteArray) (w : World) (hi : Imps w p es) (hd : Strs w pd ds) (hsm : SmallAll es ds) :
    Calls Tryd.prog 5 #[.slice p es.length c, .slice pd ds.length cd] w fun e w' => (∃ z, e = .returned (.int .i64 z)) ∧ ∃ q, w' = w.drewN q := by
  have HI := Lib.hid hi
  have HD := Lib.hid hd
  have HSm := Lib.hid hsm
  have hne := hsm.1
  have hnd := hsm.2.1
  clear hi hd hsm
  go_enter Tryd.func5, Tryd.ntmps5
  go_wp2_with fail
  go_loopg [5, 6] es.length (fun g z i wx => (∃ q, wx = w.drewN q) ∧ ∃ (k y : Nat), i = .int .i64 k ∧ z = .int .i64 y ∧ y ≤ 1048576 ∧ k + g = es.length)
  case atStart => exact ⟨⟨0, rfl⟩, 0, 0, rfl, rfl, by omega, by omega⟩
  case round =>
    obtain ⟨⟨q, rfl⟩, k, y, rfl, rfl, hy, hk⟩ := hrel
    have HK := Lib.hid hk
    clear hk
    by_cases hkn : k < es.length
    · obtain ⟨a, rfl, hc1, hc2⟩ := HI.out k hkn
      have hki : (k : Int) < (es.length : Int) := by omega
      obtain ⟨q1, q3⟩ := HSm.out.2.2.1 k hkn
      obtain ⟨u, hu⟩ : ∃ u, u = es[k].1 := ⟨_, rfl⟩
      obtain ⟨v, hv⟩ : ∃ v, v = es[k].2 := ⟨_, rfl⟩
      rw [← hu] at hc1 q1
      rw [← hv] at hc2 q3
      clear hu hv
      have q1' : ¬ (1048576 : Int) < (u.size : Int) := by omega
      have q3' : ¬ (1048576 : Int) < (v.size : Int) := by omega
      go_upto_region 7 with fail
      go_quiet (fail)
      rcases Nat.lt_or_ge 1048576 (y + (32 + u.size + v.size)) with q4 | q4
      · have q4' : (1048576 : Int) < (y : Int) + (32 + (u.size : Int) + (v.size : Int)) := by omega
        go_wp2
        go_ret
        exact ⟨⟨_, rfl⟩, _, rfl⟩
      have q4' : ¬ (1048576 : Int) < (y : Int) + (32 + (u.size : Int) + (v.size : Int)) := by omega
      go_wp2
      go_roundg (gk - 1)
      case measure => have := HK.out; omega
      case rel =>
        exact ⟨⟨_, rfl⟩, k + 1, y + (32 + u.size + v.size), by go_num, by go_num, q4, by have := HK.out; omega⟩
    · have hki : ¬ (k : Int) < (es.length : Int) := by omega
      go_wp2_with fail
      go_loopg [5, 7] ds.length (fun g z i wx => (∃ q, wx = w.drewN q) ∧ ∃ (k y : Nat), i = .int .i64 k ∧ z = .int .i64 y ∧ y ≤ 1048576 ∧ k + g = ds.length)
      case atStart => exact ⟨⟨q, rfl⟩, 0, y, rfl, rfl, hy, by omega⟩
      case round =>
        obtain ⟨⟨q2, rfl⟩, k2, y2, rfl, rfl, hy2, hk2⟩ := hrel
        have HK2 := Lib.hid hk2
        clear hk2
        by_cases hkn2 : k2 < ds.length
        · obtain ⟨a, rfl, hc1⟩ := HD.out k2 hkn2
          have hki2 : (k2 : Int) < (ds.length : Int) := by omega
          have q1 := HSm.out.2.2.2 k2 hkn2
          obtain ⟨u, hu⟩ : ∃ u, u = ds[k2] := ⟨_, rfl⟩
          rw [← hu] at hc1 q1
          clear hu
          have q1' : ¬ (1048576 : Int) < (u.size : Int) := by omega
          rcases Nat.lt_or_ge 1048576 (y2 + (16 + u.size)) with q4 | q4
          · have q4' : (1048576 : Int) < (y2 : Int) + (16 + (u.size : Int)) := by omega
            go_wp2
            go_ret
            exact ⟨⟨_, rfl⟩, _, rfl⟩
          have q4' : ¬ (1048576 : Int) < (y2 : Int) + (16 + (u.size : Int)) := by omega
          go_wp2
          go_roundg (gk - 1)
          case measure => have := HK2.out; omega
          case rel =>
            exact ⟨⟨_, rfl⟩, k2 + 1, y2 + (16 + u.size), by go_num, by go_num, q4, by have := HK2.out; omega⟩
        · have hki2 : ¬ (k2 : Int) < (ds.length : Int) := by omega
          go_wp2
          go_ret
          exact ⟨⟨_, rfl⟩, _, rfl⟩

/-- Printable ASCII without a quote or a backslash. -/
def plainB (b : UInt8) : Prop := 32 ≤ b.toNat ∧ b.toNat ≤ 126 ∧ b ≠ 34 ∧ b ≠ 92
/-- Every path plain, no two alike. -/
def PlainAll (es : List Ent) : Prop := (∀ i (h : i < es.length), ∀ b ∈ es[i].1.data.toList, plainB b) ∧ ∀ i j (hi : i < es.length) (hj : j < i), es[j].1 ≠ es[i].1
def PlainPost (es : List Ent) (e : Ending) : Prop := ∃ b, e = .returned (.bool b) ∧ (b = true → PlainAll es)

set_option maxRecDepth 100000 in
set_option maxHeartbeats 4000000 in
/-- zzPlainDistinctPathsB1: yes only where every path is plain and no two are alike. -/
theorem zzPlain (p : Option Addr) (c : Nat) (es : List Ent) (w : World) (hi : Imps w p es) (hn : es.length ≤ 1048576) (hs : ∀ i (h : i < es.length), es[i].1.size ≤ 1048576) :
    Calls Tryd.prog 6 #[.slice p es.length c] w fun e w' => PlainPost es e ∧ w' = w := by
  have HI := Lib.hid hi
  have HSm := Lib.hid hs
  clear hi hs
  go_enter Tryd.func6, Tryd.ntmps6
  go_wp2_with fail
  go_loopg [3] es.length (fun g x wx => wx = w ∧ ∃ (k : Nat), x = .int .i64 k ∧ k + g = es.length ∧ (∀ i (h : i < es.length), i < k → ∀ b ∈ es[i].1.data.toList, plainB b) ∧ ∀ i j (hi : i < es.length) (hj : j < i), i < k → es[j].1 ≠ es[i].1)
  case atStart => exact ⟨rfl, 0, rfl, by omega, (fun i _ h => by omega), (fun i j _ _ h => by omega)⟩
  case round =>
    obtain ⟨rfl, k, rfl, hk, hpl, hdi⟩ := hrel
    have HK := Lib.hid hk
    have HPl := Lib.hid hpl
    have HDi := Lib.hid hdi
    clear hk hpl hdi
    by_cases hkn : k < es.length
    · obtain ⟨a, rfl, hc1, hc2⟩ := HI.out k hkn
      have hki : (k : Int) < (es.length : Int) := by omega
      have hsz := HSm.out k hkn
      obtain ⟨u, hu⟩ : ∃ u, u = es[k].1 := ⟨_, rfl⟩
      rw [← hu] at hc1 hsz
      have HU := Lib.hid hu
      have HA := Lib.hid (at_ u)
      clear hu hc2
      go_wp2_with fail
      go_loopg [5] u.size (fun g x wx => wx = wr ∧ ∃ (j : Nat), x = .int .i64 j ∧ j + g = u.size ∧ ∀ b ∈ u.data.toList.take j, plainB b)
      case atStart => exact ⟨rfl, 0, rfl, by omega, (fun b hb => by simp at hb)⟩
      case round =>
        obtain ⟨rfl, j, rfl, hj, hpj⟩ := hrel
        have HJ := Lib.hid hj
        have HPj := Lib.hid hpj
        clear hj hpj
        by_cases hjn : j < u.size
        · have hji : (j : Int) < (u.size : Int) := by omega
          have hat := HA.out j hjn
          have HAt := Lib.hid hat
          clear hat
          by_cases g1 : u[j].toNat < 32
          · have g1' : (u[j].toNat : Int) < 32 := by omega
            go_wp2
            go_ret
            exact ⟨⟨false, rfl, fun h => by cases h⟩, rfl⟩
          have g1' : ¬ (u[j].toNat : Int) < 32 := by omega
          by_cases g2 : 126 < u[j].toNat
          · have g2' : 126 < (u[j].toNat : Int) := by omega
            go_wp2
            go_ret
            exact ⟨⟨false, rfl, fun h => by cases h⟩, rfl⟩
          have g2' : ¬ 126 < (u[j].toNat : Int) := by omega
          by_cases g3 : u[j].toNat = 34
          · have g3' : ((u[j].toNat : Int) == 34) = true := beq_yes (by omega)
            go_wp2
            go_ret
            exact ⟨⟨false, rfl, fun h => by cases h⟩, rfl⟩
          have g3' : ((u[j].toNat : Int) == 34) = false := beq_no (by omega)
          by_cases g4 : u[j].toNat = 92
          · have g4' : ((u[j].toNat : Int) == 92) = true := beq_yes (by omega)
            go_wp2
            go_ret
            exact ⟨⟨false, rfl, fun h => by cases h⟩, rfl⟩
          have g4' : ((u[j].toNat : Int) == 92) = false := beq_no (by omega)
          have hpj2 : ∀ b ∈ u.data.toList.take (j + 1), plainB b := fun b hb => by
            rw [List.take_add_one, List.mem_append] at hb
            rcases hb with hb | hb
            · exact HPj.out b hb
            · rw [HAt.out] at hb
              simp at hb
              subst hb
              exact ⟨by omega, by omega, fun e => g3 (by rw [e]; rfl), fun e => g4 (by rw [e]; rfl)⟩
          have HPj2 := Lib.hid hpj2
          clear hpj2
          go_wp2
          go_roundg (gk - 1)
          case measure => have := HJ.out; omega
          case rel => exact ⟨rfl, j + 1, by go_num, by have := HJ.out; omega, HPj2.out⟩
        · have hji : ¬ (j : Int) < (u.size : Int) := by omega
          have hpk : ∀ b ∈ u.data.toList, plainB b := by
            have := HPj.out
            rw [List.take_of_length_le (by rw [← Lib.size_eq]; omega)] at this
            exact this
          have HPk := Lib.hid hpk
          clear hpk
          go_wp2_with fail
          go_loopg [7] k (fun g x wx => wx = wr ∧ ∃ (m : Nat), x = .int .i64 m ∧ m + g = k ∧ ∀ j (h : j < es.length), j < m → es[j].1 ≠ u)
          case atStart => exact ⟨rfl, 0, rfl, by omega, (fun b _ hb => by omega)⟩
          case round =>
            obtain ⟨rfl, m, rfl, hm, hdm⟩ := hrel
            have HMm := Lib.hid hm
            have HDm := Lib.hid hdm
            clear hm hdm
            by_cases hmn : m < k
            · have hmi : (m : Int) < (k : Int) := by omega
              obtain ⟨a', haa, hc1', hc2'⟩ := HI.out m (by omega)
              injection haa with haa
              subst haa
              obtain ⟨v, hv⟩ : ∃ v, v = es[m].1 := ⟨_, rfl⟩
              rw [← hv] at hc1'
              have HV := Lib.hid hv
              clear hv hc2'
              by_cases hvu : v = u
              · have hvu' := str_yes hvu
                clear hvu
                go_wp2
                go_ret
                exact ⟨⟨false, rfl, fun h => by cases h⟩, rfl⟩
              · have hvu' := str_no hvu
                have hdm2 : ∀ j (h : j < es.length), j < m + 1 → es[j].1 ≠ u := fun j h hj => by
                  by_cases hjm : j = m
                  · subst hjm; rw [← HV.out]; exact hvu
                  · exact HDm.out j h (by omega)
                have HDm2 := Lib.hid hdm2
                clear hvu hdm2
                go_wp2
                go_roundg (gk - 1)
                case measure => have := HMm.out; omega
                case rel => exact ⟨rfl, m + 1, by go_num, by have := HMm.out; omega, HDm2.out⟩
            · have hmi : ¬ (m : Int) < (k : Int) := by omega
              go_wp2
              go_roundg (es.length - (k + 1))
              case measure => have := HK.out; omega
              case rel =>
                refine ⟨rfl, k + 1, by go_num, by omega, fun i h hi => ?_, fun i j hi hj hik => ?_⟩
                · by_cases hik : i = k
                  · subst hik; rw [← HU.out]; exact HPk.out
                  · exact HPl.out i h (by omega)
                · by_cases hik2 : i = k
                  · subst hik2; rw [← HU.out]; exact HDm.out j (by omega) (by omega)
                  · exact HDi.out i j hi hj (by omega)
    · have hki : ¬ (k : Int) < (es.length : Int) := by omega
      go_wp2
      go_ret
      exact ⟨⟨true, rfl, fun _ => ⟨fun i h => HPl.out i h (by omega), fun i j h hj => HDi.out i j h hj (by omega)⟩⟩, rfl⟩
end Go.Proofs.Qxb6604462aDoor
