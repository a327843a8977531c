/-
  seat b6604708aD: zzCountLines, zzEqBB, zzNonBlankB, walked; plain: a blank line ahead shifts the counts by one.
-/
import Derived.Test.Qxb6604708aDoorExact
namespace Go.Proofs.Qxb6604708aDoor
open Go Go.RowKit

/-- Where the line at k begins: at the text's head, or behind a line feed. -/
def Head (s : ByteArray) (k : Nat) : Prop := k = 0 ∨ ∃ (i : Nat) (h : i < s.size), k = i + 1 ∧ s[i] = 10

theorem zzBytes21 (s : ByteArray) (limit : Int) (w : World) (hs : s.size ≤ 1048576) : Calls Tryd.prog 21 #[.string s, .int .i64 limit] w fun e w' => e = .returned (.bool true) ∧ w' = w := by
  have h1 : ¬ (1048576 : Int) < (s.size : Int) := by omega
  go_enter Tryd.func21, Tryd.ntmps21
  go_wp2
  go_ret
  exact ⟨rfl, rfl⟩

theorem Ph.count {s : ByteArray} {k : Nat} {ls : List ByteArray} (h : Ph s k s.size ls) (hh : Head s k) :
    (∃ h0 : 0 < s.size, s[s.size - 1] ≠ 10 ∧ (physOf s.data.toList).length = ls.length + 1) ∨ ((s.size = 0 ∨ ∃ h0 : 0 < s.size, s[s.size - 1] = 10) ∧ (physOf s.data.toList).length = ls.length) := by
  by_cases hk : k < s.size
  · left
    refine ⟨by omega, fun he => ?_, ?_⟩
    · apply h.no
      have h1 : s.data.toList[s.size - 1]? = some 10 := by rw [at_ s (s.size - 1) (by omega), he]
      have h2 : (s.data.toList.drop k)[s.size - 1 - k]? = some 10 := by rw [List.getElem?_drop, show k + (s.size - 1 - k) = s.size - 1 by omega]; exact h1
      rw [List.take_of_length_le (by rw [List.length_drop, ← Lib.size_eq]; omega)]
      exact List.mem_of_getElem? h2
    · rw [(h.last hk).1]
      simp
  · right
    refine ⟨?_, by rw [h.done hk]; simp⟩
    have hle := h.le
    rcases hh with rfl | ⟨i, hi, rfl, he⟩
    · exact Or.inl (by omega)
    · right
      refine ⟨by omega, ?_⟩
      have : s.size - 1 = i := by omega
      simp only [this]
      exact he

set_option maxRecDepth 100000 in
set_option maxHeartbeats 2000000 in
theorem zzCount (s : ByteArray) (w : World) (hs : s.size ≤ 1048576) :
    Calls Tryd.prog 17 #[.string s] w fun e w' => e = .returned (.int .i64 (physOf s.data.toList).length) ∧ w' = w := by
  obtain ⟨P, hP⟩ : ∃ P, P = (physOf s.data.toList).length := ⟨_, rfl⟩
  rw [← hP]
  have HP := Lib.hid hP
  clear hP
  go_enter Tryd.func17, Tryd.ntmps17
  go_upto_block 0 with fail
  go_cut [3] from 5 (fun n wx => wx = w ∧ ∃ (ls : List ByteArray) (k : Nat), n = .int .i64 ls.length ∧ Ph s k s.size ls ∧ Head s k)
  case first =>
    go_wp2_with fail
    go_loopg [3, 4] s.size (fun g n i wx => wx = w ∧ ∃ (ls : List ByteArray) (k j : Nat), n = .int .i64 ls.length ∧ i = .int .i64 j ∧ j + g = s.size ∧ Ph s k j ls ∧ Head s k)
    case atStart => exact ⟨rfl, [], 0, 0, rfl, rfl, by omega, Ph.zero s, Or.inl rfl⟩
    case round =>
      obtain ⟨rfl, ls, k, j, rfl, rfl, hj, hph, hhd⟩ := hrel
      have HPh := Lib.hid hph
      have HJ := Lib.hid hj
      have HHd := Lib.hid hhd
      have hln := hph.ln
      clear hph hj hhd
      by_cases hjn : j < s.size
      · by_cases hb10 : s[j] = 10
        · have hbi : (s[j].toNat : Int) = 10 := by rw [hb10]; rfl
          have hbe := beq_yes hbi
          have HPh2 := Lib.hid (HPh.out.feed hjn hb10)
          have HHd2 : Hid (Head s (j + 1)) := Lib.hid (Or.inr ⟨j, hjn, rfl, hb10⟩)
          clear hb10
          go_wp2
          go_roundg (gk - 1)
          case measure => have := HJ.out; omega
          case rel => exact ⟨rfl, _, j + 1, j + 1, by rw [List.length_append]; go_num, by go_num, by have := HJ.out; omega, HPh2.out, HHd2.out⟩
        · have hbi : (s[j].toNat : Int) ≠ 10 := fun h => hb10 (byte_eq (c := 10) h)
          have hbe := beq_no hbi
          have HPh2 := Lib.hid (HPh.out.on hjn hb10)
          clear hb10
          go_wp2
          go_roundg (gk - 1)
          case measure => have := HJ.out; omega
          case rel => exact ⟨rfl, ls, k, j + 1, rfl, by go_num, by have := HJ.out; omega, HPh2.out, HHd.out⟩
      · have hje : j = s.size := by have := HJ.out; omega
        have HPh2 : Hid (Ph s k s.size ls) := Lib.hid (by rw [← hje]; exact HPh.out)
        clear hje
        go_wp2
        go_meet
        exact ⟨rfl, ls, k, rfl, HPh2.out, HHd.out⟩
  case rest =>
  obtain ⟨rfl, ls, k, rfl, hph, hhd⟩ := hcut
  have hln := hph.ln
  have hc := hph.count hhd
  clear hph hhd
  rcases hc with ⟨h0, hne, hl⟩ | ⟨h0 | ⟨h0, he⟩, hl⟩
  · have hbi : (s[s.size - 1].toNat : Int) ≠ 10 := fun h => hne (byte_eq (c := 10) h)
    have hbn := bne_yes hbi
    have h0i : (0 : Int) < (s.size : Int) := by omega
    have HLl := Lib.hid hl
    clear hne hl
    go_wp2
    go_ret
    exact ⟨by rw [HP.out, HLl.out]; simp, rfl⟩
  · have h0i : ¬ (0 : Int) < (s.size : Int) := by omega
    have HLl := Lib.hid hl
    clear hl
    go_wp2
    go_ret
    exact ⟨by rw [HP.out, HLl.out]; rfl, rfl⟩
  · have hbi : (s[s.size - 1].toNat : Int) = 10 := by rw [he]; rfl
    have hbn := bne_no hbi
    have h0i : (0 : Int) < (s.size : Int) := by omega
    have HLl := Lib.hid hl
    clear he hl
    go_wp2
    go_ret
    exact ⟨by rw [HP.out, HLl.out]; rfl, rfl⟩

set_option maxRecDepth 100000 in
set_option maxHeartbeats 2000000 in
theorem zzEqBB (p p2 : Option Addr) (n c c2 : Nat) (bs : List UInt8) (w : World) (hn : n = bs.length) (hb : n ≤ 2000000) (hin : Lib.BytesIn w p n (bs.map fun b => (b.toNat : Int))) (hin2 : Lib.BytesIn w p2 n (bs.map fun b => (b.toNat : Int))) :
    Calls Tryd.prog 22 #[.slice p n c, .slice p2 n c2] w fun e w' => e = .returned (.bool true) ∧ ∃ q, w' = w.drewN q := by
  have hlen : ((n : Int) != (n : Int)) = false := bne_no rfl
  have HIn := Lib.hid hin
  have HIn2 := Lib.hid hin2
  have HN := Lib.hid hn
  clear hin hin2 hn
  go_enter Tryd.func22, Tryd.ntmps22
  go_wp2_with fail
  go_loopg [5] n (fun g i wx => (∃ q, wx = w.drewN q) ∧ ∃ k : Nat, i = .int .i64 k ∧ k + g = n)
  case atStart => exact ⟨⟨0, rfl⟩, 0, rfl, by omega⟩
  case round =>
    obtain ⟨⟨q, rfl⟩, k, rfl, hk⟩ := hrel
    have HK := Lib.hid hk
    clear hk
    by_cases hkn : k < n
    · obtain ⟨b, o, rfl, hcell⟩ := HIn.out (by omega)
      obtain ⟨b2, o2, rfl, hcell2⟩ := HIn2.out (by omega)
      have hc := hcell k hkn
      have hc2 := hcell2 k hkn
      rw [nums_getD] at hc hc2
      obtain ⟨x, hx⟩ : ∃ x, x = bs.getD k 0 := ⟨_, rfl⟩
      rw [← hx] at hc hc2
      have hbn : ((x.toNat : Int) != (x.toNat : Int)) = false := bne_no rfl
      have hki : (k : Int) < (n : Int) := by omega
      clear hcell hcell2 hx
      go_upto_region 6 with fail
      go_quiet (fail)
      go_wp2
      go_roundg (gk - 1)
      case measure => have := HK.out; omega
      case rel => exact ⟨⟨_, rfl⟩, k + 1, by go_num, by have := HK.out; omega⟩
    · have hki : ¬ (k : Int) < (n : Int) := by omega
      go_wp2
      go_ret
      exact ⟨rfl, _, rfl⟩

set_option maxRecDepth 100000 in
set_option maxHeartbeats 2000000 in
theorem zzNonBlankB (p : Option Addr) (n c : Nat) (bs : List UInt8) (w : World) (hn : n = bs.length) (hb : n ≤ 2000000) (hin : Lib.BytesIn w p n (bs.map fun b => (b.toNat : Int))) :
    Calls Tryd.prog 23 #[.slice p n c] w fun e w' => e = .returned (.bool (nonBlank bs)) ∧ w' = w := by
  have HIn := Lib.hid hin
  have HN := Lib.hid hn
  clear hin hn
  go_enter Tryd.func23, Tryd.ntmps23
  go_wp2_with fail
  go_loopg [3] n (fun g i wx => wx = w ∧ ∃ k : Nat, i = .int .i64 k ∧ k + g = n ∧ nonBlank (bs.drop k) = nonBlank bs)
  case atStart => exact ⟨rfl, 0, rfl, by omega, by rw [List.drop_zero]⟩
  case round =>
    obtain ⟨rfl, k, rfl, hk, hnb⟩ := hrel
    have HK := Lib.hid hk
    have HNb := Lib.hid hnb
    clear hnb hk
    by_cases hkn : k < n
    · have hkl : k < bs.length := by rw [← HN.out]; exact hkn
      have hcons : bs.drop k = bs[k] :: bs.drop (k + 1) := List.drop_eq_getElem_cons hkl
      obtain ⟨b, o, rfl, hcell⟩ := HIn.out (by omega)
      have hc := hcell k hkn
      rw [nums_getD, List.getD_eq_getElem?_getD, List.getElem?_eq_getElem hkl] at hc
      have hc' : wr.cell? ⟨b, o + k, none⟩ = some (.int .u8 bs[k].toNat) := hc
      have hki : (k : Int) < (n : Int) := by omega
      clear hc hcell
      by_cases hb : bs[k] = 32
      · have hbi : (bs[k].toNat : Int) = 32 := by rw [hb]; rfl
        have hbn := bne_no hbi
        have hnext : nonBlank (bs.drop (k + 1)) = nonBlank bs := by
          rw [← HNb.out, hcons, hb]
          simp [nonBlank]
        have HNext := Lib.hid hnext
        clear hcons hnext hb
        go_wp2
        go_roundg (gk - 1)
        case measure => have := HK.out; omega
        case rel => exact ⟨rfl, k + 1, by go_num, by have := HK.out; omega, HNext.out⟩
      · have hbi : (bs[k].toNat : Int) ≠ 32 := fun h => hb (byte_eq (c := 32) h)
        have hbn := bne_yes hbi
        have hres : nonBlank bs = true := by
          rw [← HNb.out, hcons]
          unfold nonBlank
          rw [List.any_cons, show (bs[k] != 32) = true by simpa using hb]
          rfl
        have HRes := Lib.hid hres
        clear hcons hres hb
        go_wp2
        go_ret
        exact ⟨by rw [HRes.out]; rfl, rfl⟩
    · have hres : nonBlank bs = false := by
        rw [← HNb.out, List.drop_eq_nil_iff.2 (by rw [← HN.out]; omega)]
        rfl
      have HRes := Lib.hid hres
      have hki : ¬ (k : Int) < (n : Int) := by omega
      clear hres
      go_wp2
      go_ret
      exact ⟨by rw [HRes.out]; rfl, rfl⟩

/-- A line ahead of the text. -/
theorem kept_blank (L : Nat) (l : List UInt8) : kept L (32 :: 10 :: l) = ([32] : List UInt8).take L :: kept L l := by
  have hat : (32 :: 10 :: l)[1]? = some (10 : UInt8) := rfl
  have hline := lineOf_at (T := 32 :: 10 :: l) (j := 1) hat (by simp)
  have hl : lineOf (32 :: 10 :: l) = [32] := by rw [hline]; rfl
  rw [kept_cons L (by simp), hl]
  have hstep : stepOf (32 :: 10 :: l) = 2 := by
    unfold stepOf
    rw [hl]
    simp
  rw [hstep]
  rfl

theorem blank_take (L : Nat) : nonBlank (([32] : List UInt8).take L) ≠ true := by
  cases L with
  | zero => simp [nonBlank]
  | succ n => simp [nonBlank]

theorem nextK_shift : ∀ (R : List (List UInt8)) (c : Nat), nextK R (c + 1) = ((nextK R c).1, (nextK R c).2.1 + 1, (nextK R c).2.2)
  | [], c => rfl
  | x :: R, c => by
    unfold nextK
    split
    · rfl
    · exact nextK_shift R (c + 1)

theorem nextK_blank (L : Nat) (R : List (List UInt8)) (c : Nat) : nextK (([32] : List UInt8).take L :: R) c = nextK R (c + 1) := by
  conv => lhs; unfold nextK
  rw [if_neg (blank_take L)]

/-- What a round eats. -/
theorem nextK_cases : ∀ (R : List (List UInt8)) (c : Nat), nextK R c = (none, c + R.length, []) ∨ ∃ y k R', nextK R c = (some y, k, R') ∧ c < k ∧ k + R'.length = c + R.length ∧ nonBlank y = true ∧ y ∈ R ∧ ∀ z ∈ R', z ∈ R
  | [], c => Or.inl rfl
  | x :: R, c => by
    by_cases hb : nonBlank x = true
    · right
      refine ⟨x, c + 1, R, ?_, by omega, by simp; omega, hb, by simp, fun z hz => by simp [hz]⟩
      unfold nextK
      rw [if_pos hb]
    · have h : nextK (x :: R) c = nextK R (c + 1) := by
        conv => lhs; unfold nextK
        rw [if_neg hb]
      rw [h]
      rcases nextK_cases R (c + 1) with h1 | ⟨y, k, R', h1, h2, h3, h4, h5, h6⟩
      · left
        rw [h1, List.length_cons, show c + 1 + R.length = c + (R.length + 1) by omega]
      · right
        exact ⟨y, k, R', h1, by omega, by rw [List.length_cons]; omega, h4, by simp [h5], fun z hz => by simp [h6 z hz]⟩

theorem kept_short {L : Nat} {l y : List UInt8} (h : y ∈ kept L l) : y.length ≤ L := by
  unfold kept at h
  obtain ⟨x, _, rfl⟩ := List.mem_map.1 h
  rw [List.length_take]
  omega

theorem nonBlank_pos {y : List UInt8} (h : nonBlank y = true) : 0 < y.length := by
  cases y with
  | nil => simp [nonBlank] at h
  | cons a l => simp
end Go.Proofs.Qxb6604708aDoor
