/-
  seat b6604799aD: timeOfDay, walked.
-/
import Derived.Test.Qxb6604799aDoorSmall
import Derived.Deep.RegionWith
namespace Go.Proofs.Qxb6604799aDoor
open Go Go.RowKit Go.Sort

/-- How timeOfDay ends: what follows the time, or none. -/
def TodEnd (l : List UInt8) (e : Ending) : Prop :=
  e = match Pl.tod l with
    | some r => .returned (.tuple #[.string ⟨r.toArray⟩, .bool true])
    | none => .returned (.tuple #[.string ⟨#[]⟩, .bool false])
theorem TodEnd.no {l : List UInt8} (h : Pl.tod l = none) : TodEnd l (.returned (.tuple #[.string ⟨#[]⟩, .bool false])) := by unfold TodEnd; rw [h]
theorem TodEnd.yes {l : List UInt8} {r : List UInt8} {t : ByteArray} (h : Pl.tod l = some r) (ht : t.data.toList = r) : TodEnd l (.returned (.tuple #[.string t, .bool true])) := by
  unfold TodEnd
  rw [h, ← ht]

/-- The piece of a text between two places. -/
theorem piece (s : ByteArray) (a b : Nat) : (s.extract a b).data.toList = (s.data.toList.drop a).take (b - a) := Lib.extract_data s a b

set_option maxRecDepth 100000 in
set_option maxHeartbeats 4000000 in
theorem time (s : ByteArray) (w : World) (hs : s.size ≤ 1048576) :
    Calls Tryd.prog 13 #[.string s] w fun e w' => TodEnd s.data.toList e ∧ Below w.heap.size w w' := by
  have HL : Hid (s.data.toList.length = s.size) := len_ s
  have HB : Hid (Pl.badClock s.data.toList = (decide (s.size < 5) || s.data.toList[2]? != some 58 || !Pl.allD (s.data.toList.take 2 ++ (s.data.toList.drop 3).take 2) || decide (23 < Pl.num (s.data.toList.take 2)) || decide (59 < Pl.num ((s.data.toList.drop 3).take 2)))) := by
    show _ = _
    unfold Pl.badClock
    rw [len_]
  go_enter Tryd.func13, Tryd.ntmps13
  go_upto_region 1 with fail
  go_cut [35] from 7 (fun x wx => x = .bool (Pl.badClock s.data.toList) ∧ Below w.heap.size w wx)
  case first =>
    by_cases h5 : s.size < 5
    · have t5 : decide (s.size < 5) = true := decide_eq_true h5
      have i5 : (s.size : Int) < 5 := by omega
      refine wp_region_quiet_below (by kernel_rfl) (by kernel_rfl) ?_
      repeat (go_big_quiet_step (fail))
      refine wpQuiet_nil ?_
      intro _ hw'
      obtain ⟨⟨dq, osq⟩, hw''⟩ := hw'
      subst hw''
      go_wp2
      go_meet
      exact ⟨by rw [HB.out, t5]; rfl, below_regrown w dq osq⟩
    have i5 : ¬ (s.size : Int) < 5 := by omega
    have d5 : decide (s.size < 5) = false := decide_eq_false h5
    have h5' : 4 < s.size := by omega
    have b2 : (2 : Int) < (s.size : Int) := by omega
    have b5 : (5 : Int) ≤ (s.size : Int) := by omega
    clear h5
    have e2 : (s.data.toList[2]? == some 58) = ((s[2].toNat : Int) == 58) := at_eq s 2 58 (by omega) (by omega)
    have e2' : (s.data.toList[2]? != some 58) = ((s[2].toNat : Int) != 58) := by rw [bne, bne, e2]
    have HE2 := Lib.hid e2'
    clear e2 e2'
    by_cases h2 : (s[2].toNat : Int) = 58
    case neg =>
      have t2 : ((s[2].toNat : Int) != 58) = true := by simp [h2]
      clear h2
      refine wp_region_quiet_below (by kernel_rfl) (by kernel_rfl) ?_
      repeat (go_big_quiet_step (fail))
      refine wpQuiet_nil ?_
      intro _ hw'
      obtain ⟨⟨dq, osq⟩, hw''⟩ := hw'
      subst hw''
      go_wp2
      go_meet
      exact ⟨by rw [HB.out, HE2.out, t2]; simp, below_regrown w dq osq⟩
    case pos =>
    have t2 : ((s[2].toNat : Int) != 58) = false := by simp [h2]
    clear h2
    have eA : (s.extract 0 2 ++ s.extract 3 5).data.toList = s.data.toList.take 2 ++ (s.data.toList.drop 3).take 2 := by
      rw [ByteArray.data_append, Array.toList_append, piece, piece]
      simp
    have cA0 := fun d os => alld (s.extract 0 2 ++ s.extract 3 5) (grow (redrawn w d) os) (by simp; omega)
    rw [eA] at cA0
    clear eA
    cases hA : Pl.allD (s.data.toList.take 2 ++ (s.data.toList.drop 3).take 2) with
    | false =>
      rw [hA] at cA0
      have cA := fun d os => Calls.regrown_of (cA0 d os)
      clear cA0
      have HA := Lib.hid hA
      clear hA
      refine wp_region_quiet_below (by kernel_rfl) (by kernel_rfl) ?_
      repeat (go_big_quiet_step ((go_at_call 15; exact cA _ _)))
      refine wpQuiet_nil ?_
      intro _ hw'
      obtain ⟨⟨dq, osq⟩, hw''⟩ := hw'
      subst hw''
      go_wp2
      go_meet
      exact ⟨by rw [HB.out, HA.out]; simp, below_regrown w dq osq⟩
    | true =>
    rw [hA] at cA0
    have cA := fun d os => Calls.regrown_of (cA0 d os)
    have p1 : (s.extract 0 2).data.toList = s.data.toList.take 2 := by rw [piece]; simp
    have p2 : (s.extract 3 5).data.toList = (s.data.toList.drop 3).take 2 := by rw [piece]
    have hd := Pl.allD_append hA
    rw [← p1, ← p2] at hd
    have cN1 := fun d os => Calls.regrown_of (number (s.extract 0 2) (grow (redrawn w d) os) (by simp; omega) (by simp; omega) hd.1)
    have cN2 := fun d os => Calls.regrown_of (number (s.extract 3 5) (grow (redrawn w d) os) (by simp; omega) (by simp; omega) hd.2)
    rw [p1] at cN1
    rw [p2] at cN2
    have HA := Lib.hid hA
    obtain ⟨n1, hn1⟩ : ∃ n1, n1 = Pl.num (s.data.toList.take 2) := ⟨_, rfl⟩
    obtain ⟨n2, hn2⟩ : ∃ n2, n2 = Pl.num ((s.data.toList.drop 3).take 2) := ⟨_, rfl⟩
    rw [← hn1] at cN1
    rw [← hn2] at cN2
    rw [← hn1, ← hn2] at HB
    clear hA hd p1 p2 cA0 hn1 hn2
    by_cases h23 : 23 < n1
    case pos =>
      refine wp_region_quiet_below (by kernel_rfl) (by kernel_rfl) ?_
      repeat (go_big_quiet_step ((first | (go_at_call 15; exact cA _ _) | (go_at_call_of 16 (s.extract 0 2); exact cN1 _ _) | (go_at_call_of 16 (s.extract 3 5); exact cN2 _ _))))
      refine wpQuiet_nil ?_
      intro _ hw'
      obtain ⟨⟨dq, osq⟩, hw''⟩ := hw'
      subst hw''
      go_wp2
      go_meet
      exact ⟨by rw [HB.out, decide_eq_true h23]; simp, below_regrown w dq osq⟩
    case neg =>
    by_cases h59 : 59 < n2
    case pos =>
      have d23 : decide (23 < n1) = false := decide_eq_false h23
      refine wp_region_quiet_below (by kernel_rfl) (by kernel_rfl) ?_
      repeat (go_big_quiet_step ((first | (go_at_call 15; exact cA _ _) | (go_at_call_of 16 (s.extract 0 2); exact cN1 _ _) | (go_at_call_of 16 (s.extract 3 5); exact cN2 _ _))))
      refine wpQuiet_nil ?_
      intro _ hw'
      obtain ⟨⟨dq, osq⟩, hw''⟩ := hw'
      subst hw''
      go_wp2
      go_meet
      exact ⟨by rw [HB.out, decide_eq_true h59]; simp, below_regrown w dq osq⟩
    case neg =>
      have d23 : decide (23 < n1) = false := decide_eq_false h23
      have d59 : decide (59 < n2) = false := decide_eq_false h59
      refine wp_region_quiet_below (by kernel_rfl) (by kernel_rfl) ?_
      repeat (go_big_quiet_step ((first | (go_at_call 15; exact cA _ _) | (go_at_call_of 16 (s.extract 0 2); exact cN1 _ _) | (go_at_call_of 16 (s.extract 3 5); exact cN2 _ _))))
      refine wpQuiet_nil ?_
      intro _ hw'
      obtain ⟨⟨dq, osq⟩, hw''⟩ := hw'
      subst hw''
      go_wp2
      go_meet
      exact ⟨by rw [HB.out, HA.out, HE2.out, t2, d5, d23, d59]; rfl, below_regrown w dq osq⟩
  case rest =>
  obtain ⟨rfl, hb0⟩ := hcut
  clear HB
  cases hbc : Pl.badClock s.data.toList with
  | true =>
    have HN : Hid (Pl.tod s.data.toList = none) := by show _ = _; unfold Pl.tod; rw [if_pos hbc]
    clear hbc
    go_wp2
    go_ret2
    exact ⟨TodEnd.no HN.out, hb0⟩
  | false =>
  have hlen : 5 ≤ s.size := by
    unfold Pl.badClock at hbc
    simp only [Bool.or_eq_false_iff, decide_eq_false_iff_not] at hbc
    have := hbc.1.1.1.1
    rw [HL.out] at this
    omega
  have HBC : Hid (¬ Pl.badClock s.data.toList = true) := by show ¬ _; rw [hbc]; simp
  clear hbc
  obtain ⟨R, hR⟩ : ∃ R, R = s.extract 5 s.size := ⟨_, rfl⟩
  have hRd : R.data.toList = s.data.toList.drop 5 := by rw [hR, Lib.extract_to_end]
  have hRs : R.size + 5 = s.size := by rw [hR]; simp; omega
  have cH : ∀ W, Calls Tryd.prog 17 #[.string R, .string ⟨#[58]⟩] W fun e w' => e = .returned (.bool (Lib.hasPrefix (s.data.toList.drop 5) [58])) ∧ W = w' := fun W => by
    rw [← hRd]
    exact (Tryd.strings_HasPrefix R ⟨#[58]⟩ W).mono fun e w' h => ⟨h.1, h.2.symm⟩
  rw [hR] at cH
  have HC := Lib.hid cH
  clear cH
  cases hp : Lib.hasPrefix (s.data.toList.drop 5) [58] with
  | false =>
    rw [hp] at HC
    have HN : Hid (Pl.tod s.data.toList = some (s.data.toList.drop 5)) := by show _ = _; unfold Pl.tod; rw [if_neg HBC.out, if_pos hp]
    rw [hR] at hRd
    have HRd := Lib.hid hRd
    clear hp hR hRd hRs
    go_wp2_with (go_at_call 17; refine (HC.out _).mono ?_; rintro e w1 ⟨rfl, rfl⟩)
    go_ret2
    exact ⟨TodEnd.yes HN.out HRd.out, hb0⟩
  | true =>
  rw [hp] at HC
  have HP : Hid (¬ Lib.hasPrefix (s.data.toList.drop 5) [58] = false) := by show ¬ _; rw [hp]; simp
  clear hp
  go_wp2_with (go_at_call 17; refine (HC.out _).mono ?_; rintro e w1 ⟨rfl, rfl⟩; refine Hid.out ?_)
  refine Lib.hid ?_
  rw [← hR]
  have HR := Lib.hid hR
  have HRd := Lib.hid hRd
  clear hR hRd HC
  have HRl : Hid ((s.data.toList.drop 5).length = R.size) := by show _ = _; rw [← HRd.out, len_]
  have hRb : R.size ≤ 1048576 := by omega
  have HS : Hid (Pl.badSec (s.data.toList.drop 5) = (decide (R.size < 3) || !Pl.allD (R.data.toList.drop 1 |>.take 2) || decide (59 < Pl.num (R.data.toList.drop 1 |>.take 2)))) := by
    show _ = _
    unfold Pl.badSec
    rw [← HRd.out, len_]
  have nobad : Pl.badSec (s.data.toList.drop 5) = true → Pl.tod s.data.toList = none := fun h => by
    unfold Pl.tod
    rw [if_neg HBC.out, if_neg HP.out, if_pos h]
  have HNB := Lib.hid nobad
  clear nobad
  by_cases h3 : R.size < 3
  · have H : Hid (Pl.tod s.data.toList = none) := HNB.out (by rw [HS.out, decide_eq_true h3]; rfl)
    go_wp2
    go_ret2
    exact ⟨TodEnd.no H.out, hb0⟩
  have h3' : 3 ≤ R.size := by omega
  have pA : (R.extract 1 3).data.toList = (R.data.toList.drop 1).take 2 := piece R 1 3
  have pS : (R.extract 1 3).size = 2 := by simp; omega
  have cA0 := fun W => alld (R.extract 1 3) W (by omega)
  rw [pA] at cA0
  cases hA : Pl.allD ((R.data.toList.drop 1).take 2) with
  | false =>
    rw [hA] at cA0
    have H : Hid (Pl.tod s.data.toList = none) := HNB.out (by rw [HS.out, hA]; simp)
    have CA := Lib.hid cA0
    clear cA0 pA pS hA
    go_wp2_with (go_at_call 15; refine (CA.out _).mono ?_; rintro e w2 ⟨rfl, hb2⟩)
    go_ret2
    exact ⟨TodEnd.no H.out, hb0.trans (hb2.mono hb0.size)⟩
  | true =>
  have cN0 := fun W => number (R.extract 1 3) W (by omega) (by omega) (by rw [pA]; exact hA)
  rw [hA] at cA0
  rw [pA] at cN0
  obtain ⟨n, hn⟩ : ∃ n, n = Pl.num ((R.data.toList.drop 1).take 2) := ⟨_, rfl⟩
  rw [← hn] at cN0
  rw [← hn, hA] at HS
  have CA := Lib.hid cA0
  have CN := Lib.hid cN0
  clear cA0 cN0 pA pS hA hn
  by_cases h59 : 59 < n
  · have H : Hid (Pl.tod s.data.toList = none) := HNB.out (by rw [HS.out, decide_eq_true h59]; simp)
    go_wp2_with (first | (go_at_call 15; refine (CA.out _).mono ?_; rintro e w2 ⟨rfl, hb2⟩) | (go_at_call 16; refine (CN.out _).mono ?_; rintro e w3 ⟨rfl, hb3⟩))
    go_ret2
    exact ⟨TodEnd.no H.out, (hb0.trans (hb2.mono hb0.size)).trans (hb3.mono (hb0.trans (hb2.mono hb0.size)).size)⟩
  have HNS : Hid (¬ Pl.badSec (s.data.toList.drop 5) = true) := by show ¬ _; rw [HS.out, decide_eq_false h3, decide_eq_false h59]; simp
  clear HNB HS
  obtain ⟨T, hT⟩ : ∃ T, T = R.extract 3 R.size := ⟨_, rfl⟩
  have hTd : T.data.toList = s.data.toList.drop 8 := by rw [hT, Lib.extract_to_end, HRd.out, List.drop_drop]
  have hTs : T.size ≤ 1048576 := by rw [hT]; simp; omega
  have cC : ∀ W, Calls Tryd.prog 18 #[.string T, .string ⟨#[46]⟩] W fun e w' => e = .returned (.tuple #[.string ⟨(Lib.trimPrefix (s.data.toList.drop 8) [46]).toArray⟩, .bool (Lib.hasPrefix (s.data.toList.drop 8) [46])]) ∧ W = w' := fun W => by
    rw [← hTd]
    exact (Tryd.strings_CutPrefix T ⟨#[46]⟩ W).mono fun e w' h => ⟨h.1, h.2.symm⟩
  cases hp : Lib.hasPrefix (s.data.toList.drop 8) [46] with
  | false =>
    rw [hp, hT] at cC
    have H : Hid (Pl.tod s.data.toList = some (s.data.toList.drop 8)) := by
      show _ = _
      unfold Pl.tod
      rw [if_neg HBC.out, if_neg HP.out, if_neg HNS.out, if_pos hp]
    rw [hT] at hTd
    have HTd := Lib.hid hTd
    have CC := Lib.hid cC
    clear cC hTd hp hT hTs
    go_wp2_with (first | (go_at_call 15; refine (CA.out _).mono ?_; rintro e w2 ⟨rfl, hb2⟩) | (go_at_call 16; refine (CN.out _).mono ?_; rintro e w3 ⟨rfl, hb3⟩) | (go_at_call 18; refine (CC.out _).mono ?_; rintro e w4 ⟨rfl, rfl⟩))
    go_ret2
    exact ⟨TodEnd.yes H.out HTd.out, (hb0.trans (hb2.mono hb0.size)).trans (hb3.mono (hb0.trans (hb2.mono hb0.size)).size)⟩
  | true =>
  obtain ⟨F, hF⟩ : ∃ F : ByteArray, F = ⟨(Lib.trimPrefix (s.data.toList.drop 8) [46]).toArray⟩ := ⟨_, rfl⟩
  have hFd : F.data.toList = s.data.toList.drop 9 := by
    rw [hF]
    show Lib.trimPrefix (s.data.toList.drop 8) [46] = _
    unfold Lib.trimPrefix
    rw [if_pos hp]
    show (s.data.toList.drop 8).drop 1 = _
    rw [List.drop_drop]
  rw [hp, ← hF, hT] at cC
  have hFs : F.size ≤ 1048576 := by
    rw [← len_ F, hFd, List.length_drop, HL.out]
    omega
  have cL0 := fun W => lead F W hFs
  rw [hFd] at cL0
  have hlle := Pl.ld_le (s.data.toList.drop 9)
  have hFl : (s.data.toList.drop 9).length = F.size := by rw [← hFd, len_]
  rw [hFl] at hlle
  have HFd := Lib.hid hFd
  have CC := Lib.hid cC
  have HPP : Hid (¬ Lib.hasPrefix (s.data.toList.drop 8) [46] = false) := by show ¬ _; rw [hp]; simp
  have HTOD : Hid (Pl.tod s.data.toList = if Pl.ld (s.data.toList.drop 9) = 0 then none else some ((s.data.toList.drop 9).drop (Pl.ld (s.data.toList.drop 9)))) := by
    show _ = _
    unfold Pl.tod
    rw [if_neg HBC.out, if_neg HP.out, if_neg HNS.out, if_neg HPP.out]
  obtain ⟨g, hg⟩ : ∃ g, g = Pl.ld (s.data.toList.drop 9) := ⟨_, rfl⟩
  rw [← hg] at cL0 hlle HTOD
  have CL := Lib.hid cL0
  clear cC cL0 hFd hFl hF hT hTd hp hg
  by_cases hg0 : g = 0
  · subst hg0
    rw [if_pos rfl] at HTOD
    go_wp2_with (first | (go_at_call 15; refine (CA.out _).mono ?_; rintro e w2 ⟨rfl, hb2⟩) | (go_at_call 16; refine (CN.out _).mono ?_; rintro e w3 ⟨rfl, hb3⟩) | (go_at_call 18; refine (CC.out _).mono ?_; rintro e w4 ⟨rfl, rfl⟩) | (go_at_call 19; refine (CL.out _).mono ?_; rintro e w5 ⟨rfl, hb5⟩))
    go_ret2
    have hb4 := (hb0.trans (hb2.mono hb0.size)).trans (hb3.mono (hb0.trans (hb2.mono hb0.size)).size)
    exact ⟨TodEnd.no HTOD.out, hb4.trans (hb5.mono hb4.size)⟩
  · rw [if_neg hg0] at HTOD
    have tg : ((g : Int) == 0) = false := beq_no (by omega)
    clear hg0
    go_wp2_with (first | (go_at_call 15; refine (CA.out _).mono ?_; rintro e w2 ⟨rfl, hb2⟩) | (go_at_call 16; refine (CN.out _).mono ?_; rintro e w3 ⟨rfl, hb3⟩) | (go_at_call 18; refine (CC.out _).mono ?_; rintro e w4 ⟨rfl, rfl⟩) | (go_at_call 19; refine (CL.out _).mono ?_; rintro e w5 ⟨rfl, hb5⟩))
    go_ret2
    have hb4 := (hb0.trans (hb2.mono hb0.size)).trans (hb3.mono (hb0.trans (hb2.mono hb0.size)).size)
    exact ⟨TodEnd.yes HTOD.out (by rw [Lib.extract_to_end, HFd.out]), hb4.trans (hb5.mono hb4.size)⟩
end Go.Proofs.Qxb6604799aDoor
