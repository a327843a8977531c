/-
  seat b6604799aD: the small readers, walked: leadingDigits, allDigits, number, daysIn, isDate.
-/
import Derived.Test.Qxb6604799aDoorShelf
import Derived.Test.Qxb6604799aDoorPlain
import Derived.Shelf.Strings.SlTrimAscii
import Derived.Lib.QuietBelow
import Derived.Lib.AtoiErrMem
import Derived.Lib.IndexBytes
import Derived.Lib.Hide
import Derived.WalkKit
import Derived.WalkLawsBesides
import Derived.WalkSpells
import Derived.Outline
import Derived.Deep.Cut
import Derived.Deep.QuietTactic
import Derived.BigQuiet
namespace Go.Proofs.Qxb6604799aDoor
open Go Go.RowKit Go.Sort

theorem len_ (s : ByteArray) : s.data.toList.length = s.size := by simp

set_option maxRecDepth 100000 in
set_option maxHeartbeats 400000 in
theorem lead (s : ByteArray) (w : World) (hs : s.size ≤ 1048576) :
    Calls Tryd.prog 19 #[.string s] w fun e w' => e = .returned (.int .i64 (Pl.ld s.data.toList)) ∧ Below w.heap.size w w' := by
  obtain ⟨T, hT⟩ : ∃ T : ByteArray, T = ⟨(Lib.trimLeftS s.data.toList Pl.ten).toArray⟩ := ⟨_, rfl⟩
  have hc : Calls Tryd.prog 26 #[.string s, .string ⟨#[48, 49, 50, 51, 52, 53, 54, 55, 56, 57]⟩] w fun e w' => e = .returned (.string T) ∧ Below w.heap.size w w' := by
    rw [hT]
    exact Any.strings_TrimLeft_laid Tryd.lays161 (by kernel_rfl) s ⟨#[48, 49, 50, 51, 52, 53, 54, 55, 56, 57]⟩ w (by decide) (ascii_of_all (by decide))
  have hl : Hid ((Pl.ld s.data.toList : Int) = (s.size : Int) - (T.size : Int)) := by
    show _ = _
    rw [Pl.ld_trim, len_, hT, Lib.size_mk (Lib.trimLeftS s.data.toList Pl.ten)]
  have hts : T.size ≤ s.size := by
    have h := Pl.dropWhile_len (Pl.ten.contains ·) s.data.toList
    have e : T.size = (Lib.trimLeftS s.data.toList Pl.ten).length := by rw [hT, Lib.size_mk]
    rw [e, ← len_ s]
    exact h
  clear hT
  go_enter Tryd.func19, Tryd.ntmps19
  go_wp2_with (go_at_call 26; refine hc.mono ?_; rintro e w1 ⟨rfl, hb⟩)
  go_ret
  rw [hl.out]
  exact ⟨rfl, hb⟩

set_option maxRecDepth 100000 in
set_option maxHeartbeats 400000 in
theorem alld (s : ByteArray) (w : World) (hs : s.size ≤ 1048576) :
    Calls Tryd.prog 15 #[.string s] w fun e w' => e = .returned (.bool (Pl.allD s.data.toList)) ∧ Below w.heap.size w w' := by
  have hc := Lib.hid (lead s w hs)
  have hl : Hid (Pl.allD s.data.toList = ((Pl.ld s.data.toList : Int) == (s.size : Int))) := by
    show _ = _
    unfold Pl.allD
    rw [len_]
    by_cases h : Pl.ld s.data.toList = s.size
    · rw [h, beq_self_eq_true, beq_self_eq_true]
    · have h' : ¬ (Pl.ld s.data.toList : Int) = (s.size : Int) := by omega
      rw [beq_eq_false_iff_ne.2 h, beq_eq_false_iff_ne.2 h']
  go_enter Tryd.func15, Tryd.ntmps15
  go_wp2_with (go_at_call 19; refine hc.out.mono ?_; rintro e w1 ⟨rfl, hb⟩)
  go_ret
  rw [hl.out]
  exact ⟨rfl, hb⟩

set_option maxRecDepth 100000 in
set_option maxHeartbeats 400000 in
theorem number (s : ByteArray) (w : World) (h18 : s.size ≤ 18) (h0 : 0 < s.size) (hd : Pl.allD s.data.toList = true) :
    Calls Tryd.prog 16 #[.string s] w fun e w' => e = .returned (.int .i64 (Pl.num s.data.toList)) ∧ Below w.heap.size w w' := by
  have hc : Calls Tryd.prog 23 #[.string s] w fun e w' => e = .returned (.tuple #[.int .i64 (Pl.num s.data.toList), .nilIface]) ∧ Below w.heap.size w w' :=
    (Tryd.strconv_Atoi s _ h18 (Pl.atoi_digits hd (fun e => by have := len_ s; rw [e] at this; simp at this; omega)).1 w).mono fun e w' ⟨h, t, ht⟩ => ⟨h, by rw [ht]; exact Lib.bytesWorld_below _ _ _⟩
  clear hd
  go_enter Tryd.func16, Tryd.ntmps16
  go_wp2_with (go_at_call 23; refine hc.mono ?_; rintro e w1 ⟨rfl, hb⟩)
  go_ret
  exact ⟨rfl, hb⟩

theorem num_bd (s : ByteArray) (h18 : s.size ≤ 18) (h0 : 0 < s.size) (hd : Pl.allD s.data.toList = true) : 0 ≤ Pl.num s.data.toList ∧ Pl.num s.data.toList < 1000000000000000000 := by
  have h := Pl.atoi_digits hd (fun e => by have := len_ s; rw [e] at this; simp at this; omega)
  exact ⟨h.2, (Lib.atoi_bound h.1 (by rw [len_]; exact h18)).2⟩

set_option maxRecDepth 100000 in
set_option maxHeartbeats 1000000 in
theorem days (y m : Int) (w : World) (hy0 : 0 ≤ y) (hy1 : y < 1000000000000000000) :
    Calls Tryd.prog 21 #[.int .i64 y, .int .i64 m] w fun e w' => e = .returned (.int .i64 (Pl.dIn y m)) ∧ w' = w := by
  have go : ∀ b, Pl.dIn y m = b → Hid (Pl.dIn y m = b) := fun _ h => h
  by_cases h2 : m = 2
  · have t2 : (m == 2) = true := by simp [h2]
    by_cases h4 : y % 4 = 0
    · have t4 : (y % 4 == 0) = true := by simp [h4]
      by_cases h100 : y % 100 = 0
      · have t100 : (y % 100 != 0) = false := by simp [h100]
        by_cases h400 : y % 400 = 0
        · have t400 : (y % 400 == 0) = true := by simp [h400]
          have H := go 29 (by unfold Pl.dIn; rw [if_pos h2, if_pos ⟨h4, Or.inr h400⟩])
          clear go h2 h4 h100 h400
          go_enter Tryd.func21, Tryd.ntmps21
          go_wp2
          go_ret
          rw [H.out]
          exact ⟨rfl, rfl⟩
        · have t400 : (y % 400 == 0) = false := by simp [h400]
          have H := go 28 (by unfold Pl.dIn; rw [if_pos h2, if_neg (fun h => h.2.elim (fun h => h h100) h400)])
          clear go h2 h4 h100 h400
          go_enter Tryd.func21, Tryd.ntmps21
          go_wp2
          go_ret
          rw [H.out]
          exact ⟨rfl, rfl⟩
      · have t100 : (y % 100 != 0) = true := by simp [h100]
        have H := go 29 (by unfold Pl.dIn; rw [if_pos h2, if_pos ⟨h4, Or.inl h100⟩])
        clear go h2 h4 h100
        go_enter Tryd.func21, Tryd.ntmps21
        go_wp2
        go_ret
        rw [H.out]
        exact ⟨rfl, rfl⟩
    · have t4 : (y % 4 == 0) = false := by simp [h4]
      have H := go 28 (by unfold Pl.dIn; rw [if_pos h2, if_neg (fun h => h4 h.1)])
      clear go h2 h4
      go_enter Tryd.func21, Tryd.ntmps21
      go_wp2
      go_ret
      rw [H.out]
      exact ⟨rfl, rfl⟩
  · have t2 : (m == 2) = false := by simp [h2]
    by_cases h30 : m = 4 ∨ m = 6 ∨ m = 9 ∨ m = 11
    · have H := go 30 (by unfold Pl.dIn; rw [if_neg h2, if_pos h30])
      clear go h2
      rcases h30 with h | h | h | h
      all_goals
        subst h
        clear t2
        go_enter Tryd.func21, Tryd.ntmps21
        go_wp2
        go_ret
        rw [H.out]
        exact ⟨rfl, rfl⟩
    · have H := go 31 (by unfold Pl.dIn; rw [if_neg h2, if_neg h30])
      have t4 : (m == 4) = false := by simp; omega
      have t6 : (m == 6) = false := by simp; omega
      have t9 : (m == 9) = false := by simp; omega
      have t11 : (m == 11) = false := by simp; omega
      clear go h2 h30
      go_enter Tryd.func21, Tryd.ntmps21
      go_wp2
      go_ret
      rw [H.out]
      exact ⟨rfl, rfl⟩

theorem at_ (s : ByteArray) (i : Nat) (h : i < s.size) : s.data.toList[i]? = some s[i] := by
  have h' : i < s.data.toList.length := by simpa using h
  rw [List.getElem?_eq_getElem h']
  rfl
theorem byte_of {x : UInt8} {n : Nat} (hn : n < 256) (h : (x.toNat : Int) = n) : x = UInt8.ofNat n := by
  apply UInt8.toNat_inj.1
  rw [UInt8.toNat_ofNat_of_lt' (by omega)]
  omega
theorem beq_no {x y : Int} (h : x ≠ y) : (x == y) = false := by simp [h]
theorem beq_yes {x y : Int} (h : x = y) : (x == y) = true := by simp [h]
/-- A byte of a text held against a byte: in the list's words and in the walk's. -/
theorem at_eq (s : ByteArray) (i n : Nat) (h : i < s.size) (hn : n < 256) : (s.data.toList[i]? == some (UInt8.ofNat n)) = ((s[i].toNat : Int) == (n : Int)) := by
  rw [at_ s i h]
  by_cases e : (s[i].toNat : Int) = n
  · rw [beq_yes e, byte_of hn e]; simp
  · rw [beq_no e]
    have : s[i] ≠ UInt8.ofNat n := fun e' => e (by rw [e', UInt8.toNat_ofNat_of_lt' (by omega)])
    simpa using this

set_option maxRecDepth 100000 in
set_option maxHeartbeats 1000000 in
theorem isdate (s : ByteArray) (w : World) (h10 : s.size = 10) :
    Calls Tryd.prog 20 #[.string s] w fun e w' => e = .returned (.bool (Pl.isDB s.data.toList)) ∧ Below w.heap.size w w' := by
  have t10 : ((s.size : Int) == 10) = true := beq_yes (by omega)
  have hlt : 9 < s.size := by omega
  have hle : s.size ≤ 10 := by omega
  have b4 : (4 : Int) < (s.size : Int) := by omega
  have b7 : (7 : Int) < (s.size : Int) := by omega
  have b8 : (8 : Int) ≤ (s.size : Int) := by omega
  clear h10
  have e4 : (s.data.toList[4]? == some 45) = ((s[4].toNat : Int) == 45) := at_eq s 4 45 (by omega) (by omega)
  have e7 : (s.data.toList[7]? == some 45) = ((s[7].toNat : Int) == 45) := at_eq s 7 45 (by omega) (by omega)
  have cA : ∀ d os, Calls Tryd.prog 15 #[.string (s.extract 0 4 ++ s.extract 5 7 ++ s.extract 8 s.size)] (grow (redrawn w d) os) fun e w'' => e = .returned (.bool (Pl.allD (s.data.toList.take 4 ++ (s.data.toList.drop 5).take 2 ++ s.data.toList.drop 8))) ∧ ∃ p : Regrown, w'' = grow (redrawn w p.d) p.os := fun d os => by
    have h := alld (s.extract 0 4 ++ s.extract 5 7 ++ s.extract 8 s.size) (grow (redrawn w d) os) (by simp; omega)
    have e : (s.extract 0 4 ++ s.extract 5 7 ++ s.extract 8 s.size).data.toList = s.data.toList.take 4 ++ (s.data.toList.drop 5).take 2 ++ s.data.toList.drop 8 := by
      rw [ByteArray.data_append, ByteArray.data_append, Array.toList_append, Array.toList_append, Lib.extract_data, Lib.extract_data, Lib.extract_to_end]
      simp
    rw [e] at h
    exact Calls.regrown_of h
  by_cases h4 : (s[4].toNat : Int) = 45
  · by_cases h7 : (s[7].toNat : Int) = 45
    · have t4 := beq_yes h4
      have t7 := beq_yes h7
      obtain ⟨A, hA⟩ : ∃ A, A = Pl.allD (s.data.toList.take 4 ++ (s.data.toList.drop 5).take 2 ++ s.data.toList.drop 8) := ⟨_, rfl⟩
      have HA : Hid (Pl.isDB s.data.toList = A) := by show _ = _; unfold Pl.isDB; rw [e4, e7, hA]; simp [h4, h7]
      rw [← hA] at cA
      clear h4 h7 e4 e7 hA
      go_enter Tryd.func20, Tryd.ntmps20
      go_wp2
      refine wp_region_quiet_below (by kernel_rfl) (by kernel_rfl) ?_
      repeat (go_big_quiet_step (exact cA _ _))
      refine wpQuiet_nil ?_
      intro _ hw'
      obtain ⟨⟨dq, osq⟩, hw''⟩ := hw'
      subst hw''
      go_wp2
      go_ret
      rw [HA.out]
      exact ⟨rfl, below_regrown w dq osq⟩
    · have t4 := beq_yes h4
      have t7 := beq_no h7
      have HA : Hid (Pl.isDB s.data.toList = false) := by show _ = _; unfold Pl.isDB; rw [e4, e7]; simp [h7]
      clear h4 h7 e4 e7 cA
      go_enter Tryd.func20, Tryd.ntmps20
      go_wp2
      refine wp_region_quiet_below (by kernel_rfl) (by kernel_rfl) ?_
      repeat (go_big_quiet_step (fail))
      refine wpQuiet_nil ?_
      intro _ hw'
      obtain ⟨⟨dq, osq⟩, hw''⟩ := hw'
      subst hw''
      go_wp2
      go_ret
      rw [HA.out]
      exact ⟨rfl, below_regrown w dq osq⟩
  · have t4 := beq_no h4
    have HA : Hid (Pl.isDB s.data.toList = false) := by show _ = _; unfold Pl.isDB; rw [e4]; simp [h4]
    clear h4 e4 e7 cA
    go_enter Tryd.func20, Tryd.ntmps20
    go_wp2
    refine wp_region_quiet_below (by kernel_rfl) (by kernel_rfl) ?_
    repeat (go_big_quiet_step (fail))
    refine wpQuiet_nil ?_
    intro _ hw'
    obtain ⟨⟨dq, osq⟩, hw''⟩ := hw'
    subst hw''
    go_wp2
    go_ret
    rw [HA.out]
    exact ⟨rfl, below_regrown w dq osq⟩
end Go.Proofs.Qxb6604799aDoor
