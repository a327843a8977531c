/-
  seat b6604708aD: zzPhys, walked.
-/
import Derived.Test.Qxb6604708aDoorParts
import Derived.OwnWalk
import Derived.Laws.IdiomStrings
namespace Go.Proofs.Qxb6604708aDoor
open Go Go.RowKit

theorem infoStr : ∃ i0 : TypeInfo, Tryd.prog.info? 9 = some i0 ∧ i0.zero = some (.string ⟨#[]⟩) ∧ i0.size = 1 ∧ i0.bytes = 16 := by
  have h : (Tryd.prog.info? 9).map (fun i => (i.zero, i.size, i.bytes)) = some (some (.string ⟨#[]⟩), 1, 16) := by kernel_rfl
  cases hh : Tryd.prog.info? 9 with
  | none => rw [hh] at h; cases h
  | some i => rw [hh] at h; simp at h; exact ⟨i, rfl, h.1, h.2.1, h.2.2⟩

/-- The strings of a row. -/
abbrev strs (ls : List ByteArray) : List Value := ls.map Value.string
abbrev lists (ls : List ByteArray) : List (List UInt8) := ls.map (·.data.toList)

/-- What has been split off so far: the lines ls; the line that begins at a is read up to i. -/
structure Ph (s : ByteArray) (a i : Nat) (ls : List ByteArray) : Prop where
  eq : physOf s.data.toList = lists ls ++ physOf (s.data.toList.drop a)
  no : (10 : UInt8) ∉ (s.data.toList.drop a).take (i - a)
  le : a ≤ i
  sz : ∀ x ∈ ls, x.size ≤ s.size
  ln : ls.length ≤ i

theorem Ph.zero (s : ByteArray) : Ph s 0 0 [] := ⟨by simp, by simp, Nat.le_refl _, (fun x hx => by cases hx), Nat.le_refl _⟩

theorem Ph.on {s : ByteArray} {a i : Nat} {ls : List ByteArray} (h : Ph s a i ls) (hi : i < s.size) (hb : s[i] ≠ 10) : Ph s a (i + 1) ls := by
  refine ⟨h.eq, fun hm => ?_, by have := h.le; omega, h.sz, by have := h.ln; omega⟩
  have hle := h.le
  have hlen : i < s.data.toList.length := by rw [← Lib.size_eq]; exact hi
  rw [show i + 1 - a = (i - a) + 1 by omega, List.take_add_one, List.mem_append] at hm
  rcases hm with hm | hm
  · exact h.no hm
  · rw [List.getElem?_drop, show a + (i - a) = i by omega, at_ s i hi] at hm
    simp at hm
    exact hb hm.symm

theorem Ph.feed {s : ByteArray} {a i : Nat} {ls : List ByteArray} (h : Ph s a i ls) (hi : i < s.size) (hb : s[i] = 10) : Ph s (i + 1) (i + 1) (ls ++ [s.extract a i]) := by
  have hle := h.le
  have hlen : i < s.data.toList.length := by rw [← Lib.size_eq]; exact hi
  have hat : (s.data.toList.drop a)[i - a]? = some 10 := by
    rw [List.getElem?_drop, show a + (i - a) = i by omega, at_ s i hi, hb]
  have hline := lineOf_at hat h.no
  have hne : s.data.toList.drop a ≠ [] := fun e => by rw [e] at hat; simp at hat
  have hll : (lineOf (s.data.toList.drop a)).length = i - a := by rw [hline, List.length_take, List.length_drop]; omega
  have hstep : stepOf (s.data.toList.drop a) = i + 1 - a := by
    unfold stepOf
    rw [hll, List.length_drop]
    omega
  have hex : (s.extract a i).data.toList = (s.data.toList.drop a).take (i - a) := Lib.extract_data s a i
  refine ⟨?_, by simp, Nat.le_refl _, fun x hx => ?_, by have := h.ln; simp; omega⟩
  · rw [h.eq, physOf_cons hne, hline, hstep, List.drop_drop, show a + (i + 1 - a) = i + 1 by omega, ← hex]
    simp
  · rcases List.mem_append.1 hx with hx | hx
    · exact h.sz x hx
    · simp at hx
      subst hx
      rw [Lib.size_eq, hex, List.length_take, List.length_drop, ← Lib.size_eq]
      omega

theorem Ph.last {s : ByteArray} {a : Nat} {ls : List ByteArray} (h : Ph s a s.size ls) (ha : a < s.size) : physOf s.data.toList = lists (ls ++ [s.extract a s.size]) ∧ ∀ x ∈ ls ++ [s.extract a s.size], x.size ≤ s.size := by
  have hno : (10 : UInt8) ∉ s.data.toList.drop a := by
    have := h.no
    rw [List.take_of_length_le (by rw [List.length_drop, ← Lib.size_eq]; omega)] at this
    exact this
  have hline := lineOf_all hno
  have hne : s.data.toList.drop a ≠ [] := fun e => by
    rw [List.drop_eq_nil_iff, ← Lib.size_eq] at e
    omega
  have hstep : stepOf (s.data.toList.drop a) = (s.data.toList.drop a).length := by
    unfold stepOf
    rw [hline]
    omega
  have hex : (s.extract a s.size).data.toList = s.data.toList.drop a := Lib.extract_to_end s a
  refine ⟨?_, fun x hx => ?_⟩
  · rw [h.eq, physOf_cons hne, hline, hstep, List.drop_length, physOf_nil]
    show _ = List.map _ _
    rw [List.map_append, List.map_cons, List.map_nil, hex]
  · rcases List.mem_append.1 hx with hx | hx
    · exact h.sz x hx
    · simp at hx
      subst hx
      rw [Lib.size_eq, hex, List.length_drop, ← Lib.size_eq]
      omega

theorem Ph.done {s : ByteArray} {a : Nat} {ls : List ByteArray} (h : Ph s a s.size ls) (ha : ¬ a < s.size) : physOf s.data.toList = lists ls := by
  rw [h.eq, List.drop_eq_nil_iff.2 (by rw [← Lib.size_eq]; omega), physOf_nil, List.append_nil]

set_option maxRecDepth 100000 in
set_option maxHeartbeats 4000000 in
theorem zzPhys (s : ByteArray) (w : World) (hs : s.size ≤ 1048576) :
    Calls Tryd.prog 13 #[.string s] w fun e w' => (∃ v ls, e = .returned v ∧ physOf s.data.toList = lists ls ∧ (∀ x ∈ ls, x.size ≤ s.size) ∧ w'.ownsRow w.heap.size 9 1 v ls.length (strs ls)) ∧ Below w.heap.size w w' := by
  obtain ⟨i0, hi, hz0, hz1, hz2⟩ := infoStr
  go_enter Tryd.func13, Tryd.ntmps13
  go_upto_block 0 with fail
  go_cut [3, 4] from 5 (fun v a wx => (∃ (ls : List ByteArray) (k : Nat), a = .int .i64 k ∧ Ph s k s.size ls ∧ wx.ownsRow w.heap.size 9 1 v ls.length (strs ls)) ∧ Below w.heap.size w wx)
  case first =>
    go_wp2_with fail
    go_loopg [3, 4, 5] s.size (fun g v a i wx => (∃ (ls : List ByteArray) (k j : Nat), a = .int .i64 k ∧ i = .int .i64 j ∧ j + g = s.size ∧ Ph s k j ls ∧ wx.ownsRow w.heap.size 9 1 v ls.length (strs ls)) ∧ Below w.heap.size w wx)
    case atStart => exact ⟨⟨[], 0, 0, rfl, rfl, by omega, Ph.zero s, World.ownsRow_nil _ _ _ _⟩, Below.refl _ _⟩
    case round =>
      obtain ⟨⟨ls, k, j, rfl, rfl, hj, hph, hown⟩, hb⟩ := hrel
      have HPh := Lib.hid hph
      have HJ := Lib.hid hj
      have hkj := hph.le
      have hln := hph.ln
      clear hph hj
      by_cases hjn : j < s.size
      · by_cases hb10 : s[j] = 10
        · have hbi : (s[j].toNat : Int) = 10 := by rw [hb10]; rfl
          have hbe := beq_yes hbi
          have HPh2 := Lib.hid (HPh.out.feed hjn hb10)
          have hlen : (ls ++ [s.extract k j]).length = ls.length + 1 := by simp
          clear hb10
          go_wp2_with (at_builtin; refine wpList_append_own _ rfl _ _ 31 rfl w.heap.size 9 i0 (.string ⟨#[]⟩) 1 16 Tryd.underlying31 hi hz0 hz1 hz2 rfl (by decide) _ _ _ rfl (hown.alloc _) ⟨wr.heap.size, 0, none⟩ 1 1 [Value.string (s.extract k j)] rfl rfl (cell_one_new _ _ _) (by intro u hu; simp at hu; subst hu; rfl) (by unfold maxLen; omega) (by omega) (by simp; have := hb.size; omega) ?_)
          intro v1 w1 hown1 hgrow _
          have hsz := hb.size
          have hb1 : Below w.heap.size w w1 := (hb.alloc hsz _).grown hgrow (by simp; omega) (fun k hk => (hown.lt k hk).1)
          have eL : strs ls ++ [Value.string (s.extract k j)] = strs (ls ++ [s.extract k j]) := by simp [strs]
          rw [eL, ← hlen] at hown1
          clear hown hb hgrow eL hlen
          go_wp2
          go_roundg (gk - 1)
          case measure => have := HJ.out; omega
          case rel => exact ⟨⟨_, j + 1, j + 1, by go_num, by go_num, by have := HJ.out; omega, HPh2.out, hown1⟩, hb1⟩
        · have hbi : (s[j].toNat : Int) ≠ 10 := fun h => hb10 (byte_eq (c := 10) h)
          have hbe := beq_no hbi
          have HPh2 := Lib.hid (HPh.out.on hjn hb10)
          clear hb10
          go_wp2
          go_roundg (gk - 1)
          case measure => have := HJ.out; omega
          case rel => exact ⟨⟨ls, k, j + 1, rfl, by go_num, by have := HJ.out; omega, HPh2.out, hown⟩, hb⟩
      · have hje : j = s.size := by have := HJ.out; omega
        have HPh2 : Hid (Ph s k s.size ls) := Lib.hid (by rw [← hje]; exact HPh.out)
        clear hje
        go_wp2
        go_meet
        exact ⟨⟨ls, k, rfl, HPh2.out, hown⟩, hb⟩
  case rest =>
  obtain ⟨⟨ls, k, rfl, hph, hown⟩, hb⟩ := hcut
  have HPh := Lib.hid hph
  have hkj := hph.le
  have hln := hph.ln
  clear hph
  by_cases hkn : k < s.size
  · have HL := Lib.hid (HPh.out.last hkn)
    have hlen : (ls ++ [s.extract k s.size]).length = ls.length + 1 := by simp
    go_wp2_with (at_builtin; refine wpList_append_own _ rfl _ _ 31 rfl w.heap.size 9 i0 (.string ⟨#[]⟩) 1 16 Tryd.underlying31 hi hz0 hz1 hz2 rfl (by decide) _ _ _ rfl (hown.alloc _) ⟨wc.heap.size, 0, none⟩ 1 1 [Value.string (s.extract k s.size)] rfl rfl (cell_one_new _ _ _) (by intro u hu; simp at hu; subst hu; rfl) (by unfold maxLen; omega) (by omega) (by simp; have := hb.size; omega) ?_)
    intro v1 w1 hown1 hgrow _
    have hsz := hb.size
    have hb1 : Below w.heap.size w w1 := (hb.alloc hsz _).grown hgrow (by simp; omega) (fun k hk => (hown.lt k hk).1)
    have eL : strs ls ++ [Value.string (s.extract k s.size)] = strs (ls ++ [s.extract k s.size]) := by simp [strs]
    rw [eL, ← hlen] at hown1
    clear hown hb hgrow eL hlen
    go_wp2
    go_ret
    exact ⟨⟨v1, _, rfl, HL.out.1, HL.out.2, hown1⟩, hb1⟩
  · go_wp2
    go_ret
    exact ⟨⟨_, ls, rfl, HPh.out.done hkn, HPh.out.sz, hown⟩, hb⟩
end Go.Proofs.Qxb6604708aDoor
