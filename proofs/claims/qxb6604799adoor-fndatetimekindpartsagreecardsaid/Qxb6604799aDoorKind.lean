/-
  seat b6604799aD: dateTimeKind, walked.
-/
import Derived.Test.Qxb6604799aDoorTime
namespace Go.Proofs.Qxb6604799aDoor
open Go Go.RowKit Go.Sort

theorem kind_bad {l : List UInt8} (hd : Pl.Dated l) (hb : Pl.badDate (l.take 10) = true) : Pl.KindIs l 0 :=
  ⟨fun _ _ => rfl, fun _ h => (by rw [hb] at h; cases h), fun _ h => (by rw [hb] at h; cases h), fun h => absurd hd h⟩
theorem kind_alone {l : List UInt8} (hd : Pl.Dated l) (hb : Pl.badDate (l.take 10) = false) (hn : l.length = 10) : Pl.KindIs l 7 :=
  ⟨fun _ h => (by rw [hb] at h; cases h), fun _ _ _ => rfl, fun _ _ h => by omega, fun h => absurd hd h⟩
theorem kind_j0 {l : List UInt8} (hd : Pl.Dated l) (_hb : Pl.badDate (l.take 10) = false) (hn : 10 < l.length) : Pl.KindIs l 0 :=
  ⟨fun _ _ => rfl, fun _ _ h => by omega, fun _ _ _ => Or.inl rfl, fun h => absurd hd h⟩
theorem kind_j6 {l : List UInt8} (hd : Pl.Dated l) (hb : Pl.badDate (l.take 10) = false) (hn : 10 < l.length) (ht : Pl.tod (l.drop 11) = some []) : Pl.KindIs l 6 :=
  ⟨fun _ h => (by rw [hb] at h; cases h), fun _ _ h => by omega, fun _ _ _ => Or.inr ⟨[], ht, Or.inl ⟨rfl, rfl⟩⟩, fun h => absurd hd h⟩
theorem kind_j5 {l r : List UInt8} (hd : Pl.Dated l) (hb : Pl.badDate (l.take 10) = false) (hn : 10 < l.length) (ht : Pl.tod (l.drop 11) = some r) (hr : r ≠ []) : Pl.KindIs l 5 :=
  ⟨fun _ h => (by rw [hb] at h; cases h), fun _ _ h => by omega, fun _ _ _ => Or.inr ⟨r, ht, Or.inr ⟨rfl, hr⟩⟩, fun h => absurd hd h⟩
theorem kind_t8 {l : List UInt8} (hd : ¬ Pl.Dated l) (ht : Pl.tod l = some []) : Pl.KindIs l 8 :=
  ⟨fun h => absurd h hd, fun h => absurd h hd, fun h => absurd h hd, fun _ => Or.inl ⟨ht, rfl⟩⟩
theorem kind_t0 {l : List UInt8} (hd : ¬ Pl.Dated l) (ht : Pl.tod l ≠ some []) : Pl.KindIs l 0 :=
  ⟨fun h => absurd h hd, fun h => absurd h hd, fun h => absurd h hd, fun _ => Or.inr ⟨ht, rfl⟩⟩

/-- How dateTimeKind ends. -/
def KindEnd (l : List UInt8) (e : Ending) : Prop := ∃ k, e = .returned (.int .u8 k) ∧ Pl.KindIs l k

/-- Where the walk stands behind the date: what is left to be read as a time, and whether a date went ahead. -/
def Left (l : List UInt8) (t : ByteArray) (D : Bool) : Prop :=
  (D = false ∧ ¬ Pl.Dated l ∧ t.data.toList = l) ∨ (D = true ∧ Pl.Dated l ∧ Pl.badDate (l.take 10) = false ∧ 10 < l.length ∧ t.data.toList = l.drop 11)

set_option maxRecDepth 100000 in
set_option maxHeartbeats 4000000 in
theorem kind (s : ByteArray) (w : World) (hs : s.size ≤ 1048576) :
    Calls Tryd.prog 14 #[.string s] w fun e w' => KindEnd s.data.toList e ∧ Below w.heap.size w w' := by
  have HL : Hid (s.data.toList.length = s.size) := len_ s
  go_enter Tryd.func14, Tryd.ntmps14
  go_upto_region 2 with fail
  go_cut [17] from 9 (fun x wx => ∃ D : Bool, x = .bool D ∧ Hid (D = true ↔ Pl.Dated s.data.toList) ∧ Below w.heap.size w wx)
  case first =>
    by_cases h10 : s.size < 10
    · have i10 : ¬ (10 : Int) ≤ (s.size : Int) := by omega
      go_wp2
      go_meet
      refine ⟨false, rfl, ⟨fun h => (by cases h), fun h => ?_⟩, Below.refl _ _⟩
      have := h.1
      rw [HL.out] at this
      omega
    · have i10 : (10 : Int) ≤ (s.size : Int) := by omega
      have p : (s.extract 0 10).data.toList = s.data.toList.take 10 := by rw [piece]; simp
      have hc := isdate (s.extract 0 10) w (by simp; omega)
      rw [p] at hc
      have HC := Lib.hid hc
      clear hc p
      go_wp2_with (go_at_call 20; refine HC.out.mono ?_; rintro e w1 ⟨rfl, hb1⟩)
      go_meet
      exact ⟨_, rfl, ⟨fun h => ⟨by rw [HL.out]; omega, h⟩, fun h => h.2⟩, hb1⟩
  case rest =>
  obtain ⟨D, rfl, HD, hb0⟩ := hcut
  go_upto_if 17 with fail
  go_cut [3, 4] from 9 (fun x y wx => ∃ (t : ByteArray) (D : Bool), x = .string t ∧ y = .bool D ∧ Hid (Left s.data.toList t D) ∧ t.size ≤ 1048576 ∧ Below w.heap.size w wx)
  case first =>
    cases D with
    | false =>
      go_wp2
      go_meet
      exact ⟨s, false, rfl, rfl, Or.inl ⟨rfl, fun h => (by have := HD.out.2 h; cases this), rfl⟩, hs, hb0⟩
    | true =>
      have hD : Pl.Dated s.data.toList := HD.out.1 rfl
      have h10 : 10 ≤ s.size := by have := hD.1; rw [HL.out] at this; exact this
      have hi : Pl.isDB (s.data.toList.take 10) = true := hD.2
      have HDD := Lib.hid hD
      clear HD hD
      have h3 : Pl.allD ((s.data.toList.take 10).take 4 ++ ((s.data.toList.take 10).drop 5).take 2 ++ (s.data.toList.take 10).drop 8) = true := by
        unfold Pl.isDB at hi
        simp only [Bool.and_eq_true] at hi
        exact hi.2.2
      have h4 := Pl.allD_append (Pl.allD_append h3).1
      have h5 := (Pl.allD_append h3).2
      have q1 : (s.extract 0 4).data.toList = (s.data.toList.take 10).take 4 := by rw [piece, List.take_take]; simp
      have q2 : (s.extract 5 7).data.toList = ((s.data.toList.take 10).drop 5).take 2 := by rw [piece, List.drop_take, List.take_take]; rfl
      have q3 : (s.extract 8 10).data.toList = ((s.data.toList.take 10).drop 8).take 2 := by rw [piece, List.drop_take, List.take_take]; rfl
      have h5' : Pl.allD (((s.data.toList.take 10).drop 8).take 2) = true := Pl.allD_of fun x hx => Pl.allD_mem h5 x (List.mem_of_mem_take hx)
      have b1 := num_bd (s.extract 0 4) (by simp; omega) (by simp; omega) (by rw [q1]; exact h4.1)
      have c1 := fun d os => Calls.regrown_of (w := wc) (number (s.extract 0 4) (grow (redrawn wc d) os) (by simp; omega) (by simp; omega) (by rw [q1]; exact h4.1))
      have c2 := fun d os => Calls.regrown_of (w := wc) (number (s.extract 5 7) (grow (redrawn wc d) os) (by simp; omega) (by simp; omega) (by rw [q2]; exact h4.2))
      have c3 := fun d os => Calls.regrown_of (w := wc) (number (s.extract 8 10) (grow (redrawn wc d) os) (by simp; omega) (by simp; omega) (by rw [q3]; exact h5'))
      rw [q1] at c1 b1
      rw [q2] at c2
      rw [q3] at c3
      have HBd : Hid (Pl.badDate (s.data.toList.take 10) = (decide (Pl.num (((s.data.toList.take 10).drop 5).take 2) < 1) || decide (12 < Pl.num (((s.data.toList.take 10).drop 5).take 2)) || decide (Pl.num (((s.data.toList.take 10).drop 8).take 2) < 1) || decide (Pl.dIn (Pl.num ((s.data.toList.take 10).take 4)) (Pl.num (((s.data.toList.take 10).drop 5).take 2)) < Pl.num (((s.data.toList.take 10).drop 8).take 2)))) := rfl
      obtain ⟨y, hy⟩ : ∃ y, y = Pl.num ((s.data.toList.take 10).take 4) := ⟨_, rfl⟩
      obtain ⟨m, hm⟩ : ∃ m, m = Pl.num (((s.data.toList.take 10).drop 5).take 2) := ⟨_, rfl⟩
      obtain ⟨d, hd⟩ : ∃ d, d = Pl.num (((s.data.toList.take 10).drop 8).take 2) := ⟨_, rfl⟩
      rw [← hy] at c1 b1 HBd
      rw [← hm] at c2 HBd
      rw [← hd] at c3 HBd
      clear h3 h4 h5 h5' q1 q2 q3 hi hy hm hd
      obtain ⟨hy0, hy1⟩ := b1
      have i4 : (4 : Int) ≤ (s.size : Int) := by omega
      have i7 : (7 : Int) ≤ (s.size : Int) := by omega
      have i10 : (10 : Int) ≤ (s.size : Int) := by omega
      go_upto_region 3 with fail
      go_cut [5, 6, 7] from 9 (fun a b c wx => a = .int .i64 y ∧ b = .int .i64 m ∧ c = .int .i64 d ∧ Below w.heap.size w wx)
      case first =>
        refine wp_region_quiet_below (by kernel_rfl) (by kernel_rfl) ?_
        repeat (go_big_quiet_step ((first | (go_at_call_of 16 (s.extract 0 4); exact c1 _ _) | (go_at_call_of 16 (s.extract 5 7); exact c2 _ _) | (go_at_call_of 16 (s.extract 8 10); exact c3 _ _))))
        refine wpQuiet_nil ?_
        intro _ hw'
        obtain ⟨⟨dq, osq⟩, hw''⟩ := hw'
        subst hw''
        go_wp2
        go_meet
        exact ⟨rfl, rfl, rfl, hb0.trans ((below_regrown wc dq osq).mono hb0.size)⟩
      case rest =>
      clear c1 c2 c3
      obtain ⟨rfl, rfl, rfl, hb1⟩ := hcut
      have cD := Lib.hid (fun W => (days y m W hy0 hy1).mono fun e w' (h : e = .returned (.int .i64 (Pl.dIn y m)) ∧ w' = W) => (⟨h.1, h.2.symm⟩ : e = .returned (.int .i64 (Pl.dIn y m)) ∧ W = w'))
      obtain ⟨q, hq⟩ : ∃ q, q = Pl.dIn y m := ⟨_, rfl⟩
      rw [← hq] at cD HBd
      clear hq
      have bad : (m < 1 ∨ 12 < m ∨ d < 1 ∨ q < d) → Pl.badDate (s.data.toList.take 10) = true := fun h => by
        rw [HBd.out]
        rcases h with h | h | h | h <;> simp [h]
      have BAD := Lib.hid bad
      clear bad
      by_cases hm1 : m < 1
      · have H := Lib.hid (BAD.out (Or.inl hm1))
        go_wp2
        go_ret
        exact ⟨⟨0, rfl, kind_bad HDD.out H.out⟩, hb1⟩
      by_cases hm12 : 12 < m
      · have H := Lib.hid (BAD.out (Or.inr (Or.inl hm12)))
        go_wp2
        go_ret
        exact ⟨⟨0, rfl, kind_bad HDD.out H.out⟩, hb1⟩
      by_cases hd1 : d < 1
      · have H := Lib.hid (BAD.out (Or.inr (Or.inr (Or.inl hd1))))
        go_wp2
        go_ret
        exact ⟨⟨0, rfl, kind_bad HDD.out H.out⟩, hb1⟩
      by_cases hqd : q < d
      · have H := Lib.hid (BAD.out (Or.inr (Or.inr (Or.inr hqd))))
        go_wp2_with (go_at_call 21; refine (cD.out _).mono ?_; rintro e w2 ⟨rfl, rfl⟩)
        go_ret
        exact ⟨⟨0, rfl, kind_bad HDD.out H.out⟩, hb1⟩
      have HG : Hid (Pl.badDate (s.data.toList.take 10) = false) := by
        show _ = _
        rw [HBd.out, decide_eq_false hm1, decide_eq_false hm12, decide_eq_false hd1, decide_eq_false hqd]
        rfl
      clear BAD HBd
      by_cases hsz : s.size = 10
      · have t10 : ((s.size : Int) == 10) = true := beq_yes (by omega)
        have H := Lib.hid (kind_alone HDD.out HG.out (by rw [HL.out]; exact hsz))
        clear hsz
        go_wp2_with (go_at_call 21; refine (cD.out _).mono ?_; rintro e w2 ⟨rfl, rfl⟩)
        go_ret
        exact ⟨⟨7, rfl, H.out⟩, hb1⟩
      have t10 : ((s.size : Int) == 10) = false := beq_no (by omega)
      have hlt : 10 < s.size := by omega
      have ilt : (10 : Int) < (s.size : Int) := by omega
      have HLT : Hid (10 < s.data.toList.length) := by show _ < _; rw [HL.out]; exact hlt
      clear hsz
      obtain ⟨i, hi⟩ : ∃ i, i = Lib.indexByte [84, 116, 32] ((s[10].toNat : Int)).toNat.toUInt8 := ⟨_, rfl⟩
      have cI : ∀ W, Calls Tryd.prog 22 #[.string ⟨#[84, 116, 32]⟩, .int .u8 (s[10].toNat : Int)] W fun e w' => e = .returned (.int .i64 i) ∧ W = w' := fun W => by
        rw [hi]
        exact (Tryd.strings_IndexByte ⟨#[84, 116, 32]⟩ (s[10].toNat : Int) W).mono fun e w' h => ⟨h.1, h.2.symm⟩
      have CI := Lib.hid cI
      clear hi cI
      by_cases hi0 : i < 0
      · go_wp2_with (first | (go_at_call 21; refine (cD.out _).mono ?_; rintro e w2 ⟨rfl, rfl⟩) | (go_at_call 22; refine (CI.out _).mono ?_; rintro e w2 ⟨rfl, rfl⟩))
        go_ret
        exact ⟨⟨0, rfl, kind_j0 HDD.out HG.out HLT.out⟩, hb1⟩
      · go_wp2_with (first | (go_at_call 21; refine (cD.out _).mono ?_; rintro e w2 ⟨rfl, rfl⟩) | (go_at_call 22; refine (CI.out _).mono ?_; rintro e w2 ⟨rfl, rfl⟩))
        go_meet
        exact ⟨s.extract 11 s.size, true, rfl, rfl, Or.inr ⟨rfl, HDD.out, HG.out, HLT.out, Lib.extract_to_end s 11⟩, by simp; omega, hb1⟩
  case rest =>
  obtain ⟨t, D, rfl, rfl, HLt, hts, hb1⟩ := hcut
  clear HD hb0
  cases ht : Pl.tod t.data.toList with
  | none =>
    have cT : Calls Tryd.prog 13 #[.string t] wc fun e w' => e = .returned (.tuple #[.string ⟨#[]⟩, .bool false]) ∧ Below wc.heap.size wc w' :=
      (time t wc hts).mono fun e w' h => ⟨by have h1 := h.1; unfold TodEnd at h1; rw [ht] at h1; exact h1, h.2⟩
    have HK : Hid (Pl.KindIs s.data.toList 0) := by
      rcases HLt.out with ⟨_, h2, h3⟩ | ⟨_, h2, h3, h4, h5⟩
      · exact kind_t0 h2 (by rw [← h3, ht]; intro e; cases e)
      · exact kind_j0 h2 h3 h4
    have CT := Lib.hid cT
    clear ht cT
    go_wp2_with (go_at_call 13; refine CT.out.mono ?_; rintro e w1 ⟨rfl, hb2⟩)
    go_ret
    exact ⟨⟨0, rfl, HK.out⟩, hb1.trans (hb2.mono hb1.size)⟩
  | some r =>
  obtain ⟨R, hR⟩ : ∃ R : ByteArray, R = ⟨r.toArray⟩ := ⟨_, rfl⟩
  have hRd : R.data.toList = r := by rw [hR]
  have cT : Calls Tryd.prog 13 #[.string t] wc fun e w' => e = .returned (.tuple #[.string R, .bool true]) ∧ Below wc.heap.size wc w' :=
    (time t wc hts).mono fun e w' h => ⟨by have h1 := h.1; unfold TodEnd at h1; rw [ht] at h1; rw [hR]; exact h1, h.2⟩
  have CT := Lib.hid cT
  have HT : Hid (Pl.tod t.data.toList = some R.data.toList) := by rw [hRd]; exact ht
  clear cT ht hRd hR
  by_cases hemp : R.data.toList = []
  · have te : R.toList.isEmpty = true := by rw [Lib.toList_data, hemp]; rfl
    rw [hemp] at HT
    clear hemp
    cases D with
    | false =>
      have HK : Hid (Pl.KindIs s.data.toList 8) := by
        rcases HLt.out with ⟨_, h2, h3⟩ | ⟨h, _⟩
        · exact kind_t8 h2 (by rw [← h3]; exact HT.out)
        · cases h
      go_wp2_with (go_at_call 13; refine CT.out.mono ?_; rintro e w1 ⟨rfl, hb2⟩)
      go_ret
      exact ⟨⟨8, rfl, HK.out⟩, hb1.trans (hb2.mono hb1.size)⟩
    | true =>
      have HK : Hid (Pl.KindIs s.data.toList 6) := by
        rcases HLt.out with ⟨h, _⟩ | ⟨_, h2, h3, h4, h5⟩
        · cases h
        · exact kind_j6 h2 h3 h4 (by rw [← h5]; exact HT.out)
      go_wp2_with (go_at_call 13; refine CT.out.mono ?_; rintro e w1 ⟨rfl, hb2⟩)
      go_ret
      exact ⟨⟨6, rfl, HK.out⟩, hb1.trans (hb2.mono hb1.size)⟩
  have te : R.toList.isEmpty = false := by
    rw [Lib.toList_data]
    cases h : R.data.toList with
    | nil => exact absurd h hemp
    | cons _ _ => rfl
  have HNE := Lib.hid hemp
  clear hemp
  cases D with
  | false =>
    have HK : Hid (Pl.KindIs s.data.toList 0) := by
      rcases HLt.out with ⟨_, h2, h3⟩ | ⟨h, _⟩
      · exact kind_t0 h2 (by rw [← h3, HT.out]; intro e; injection e with e; exact HNE.out e)
      · cases h
    go_wp2_with (go_at_call 13; refine CT.out.mono ?_; rintro e w1 ⟨rfl, hb2⟩)
    go_ret
    exact ⟨⟨0, rfl, HK.out⟩, hb1.trans (hb2.mono hb1.size)⟩
  | true =>
  have HK5 : Hid (Pl.KindIs s.data.toList 5) := by
    rcases HLt.out with ⟨h, _⟩ | ⟨_, h2, h3, h4, h5⟩
    · cases h
    · exact kind_j5 h2 h3 h4 (by rw [← h5]; exact HT.out) HNE.out
  have HK0 : Hid (Pl.KindIs s.data.toList 0) := by
    rcases HLt.out with ⟨h, _⟩ | ⟨_, h2, h3, h4, h5⟩
    · cases h
    · exact kind_j0 h2 h3 h4
  clear HLt HT HNE
  go_upto_region 20 with (go_at_call 13; refine CT.out.mono ?_; rintro e w1 ⟨rfl, hb2⟩)
  have hb3 := hb1.trans (hb2.mono hb1.size)
  clear hb1 hb2 CT
  go_cut [73] from 9 (fun x wx => ∃ v : Bool, x = .bool v ∧ wx = w1)
  case first =>
    go_wp2
    all_goals
      go_meet
      exact ⟨_, rfl, rfl⟩
  case rest =>
  obtain ⟨v, rfl, rfl⟩ := hcut
  cases v with
  | true =>
    go_wp2
    go_ret
    exact ⟨⟨5, rfl, HK5.out⟩, hb3⟩
  | false =>
  go_upto_region 22 with fail
  go_cut [117] from 9 (fun x wx => ∃ v : Bool, x = .bool v ∧ Below w.heap.size w wx)
  case first =>
    by_cases h6 : R.size = 6
    case neg =>
      have t6 : ((R.size : Int) == 6) = false := beq_no (by omega)
      clear h6
      refine wp_region_quiet_below (by kernel_rfl) (by kernel_rfl) ?_
      repeat (go_big_quiet_step (fail))
      refine wpQuiet_nil ?_
      intro _ hw'
      obtain ⟨⟨dq, osq⟩, hw''⟩ := hw'
      subst hw''
      go_wp2
      go_meet
      exact ⟨_, rfl, hb3.trans ((below_regrown wc dq osq).mono hb3.size)⟩
    case pos =>
    have t6 : ((R.size : Int) == 6) = true := beq_yes (by omega)
    have l6 : 5 < R.size := by omega
    have u6 : R.size ≤ 6 := by omega
    clear h6
    have n0 : 0 < R.size := by omega
    have i0 : (0 : Int) < (R.size : Int) := by omega
    have i3 : (3 : Int) < (R.size : Int) := by omega
    have i3' : (3 : Int) ≤ (R.size : Int) := by omega
    have i4 : (4 : Int) ≤ (R.size : Int) := by omega
    have p1 : (R.extract 1 3).data.toList = (R.data.toList.drop 1).take 2 := piece R 1 3
    have p2 : (R.extract 4 R.size).data.toList = R.data.toList.drop 4 := Lib.extract_to_end R 4
    have pA : (R.extract 1 3 ++ R.extract 4 R.size).data.toList = (R.data.toList.drop 1).take 2 ++ R.data.toList.drop 4 := by
      rw [ByteArray.data_append, Array.toList_append, p1, p2]
    have cA0 := fun d os => alld (R.extract 1 3 ++ R.extract 4 R.size) (grow (redrawn wc d) os) (by simp; omega)
    rw [pA] at cA0
    clear pA
    by_cases h43 : (R[0].toNat : Int) = 43
    · have t0 : ((R[0].toNat : Int) == 43) = true := beq_yes h43
      clear h43
      have t0' := t0
      by_cases h3 : (R[3].toNat : Int) = 58
      case neg =>
        have t3 : ((R[3].toNat : Int) == 58) = false := beq_no h3
        clear h3
        refine wp_region_quiet_below (by kernel_rfl) (by kernel_rfl) ?_
        repeat (go_big_quiet_step (fail))
        refine wpQuiet_nil ?_
        intro _ hw'
        obtain ⟨⟨dq, osq⟩, hw''⟩ := hw'
        subst hw''
        go_wp2
        go_meet
        exact ⟨_, rfl, hb3.trans ((below_regrown wc dq osq).mono hb3.size)⟩
      case pos =>
      have t3 : ((R[3].toNat : Int) == 58) = true := beq_yes h3
      clear h3
      cases hA : Pl.allD ((R.data.toList.drop 1).take 2 ++ R.data.toList.drop 4) with
      | false =>
        rw [hA] at cA0
        have cA := fun d os => Calls.regrown_of (w := wc) (cA0 d os)
        clear cA0 hA
        refine wp_region_quiet_below (by kernel_rfl) (by kernel_rfl) ?_
        repeat (go_big_quiet_step ((go_at_call 15; exact cA _ _)))
        refine wpQuiet_nil ?_
        intro _ hw'
        obtain ⟨⟨dq, osq⟩, hw''⟩ := hw'
        subst hw''
        go_wp2
        go_meet
        exact ⟨_, rfl, hb3.trans ((below_regrown wc dq osq).mono hb3.size)⟩
      | true =>
      rw [hA] at cA0
      have cA := fun d os => Calls.regrown_of (w := wc) (cA0 d os)
      have hd := Pl.allD_append hA
      rw [← p1, ← p2] at hd
      have c1 := fun d os => Calls.regrown_of (w := wc) (number (R.extract 1 3) (grow (redrawn wc d) os) (by simp; omega) (by simp; omega) hd.1)
      have c2 := fun d os => Calls.regrown_of (w := wc) (number (R.extract 4 R.size) (grow (redrawn wc d) os) (by simp; omega) (by simp; omega) hd.2)
      obtain ⟨n1, hn1⟩ : ∃ n1, n1 = Pl.num (R.extract 1 3).data.toList := ⟨_, rfl⟩
      obtain ⟨n2, hn2⟩ : ∃ n2, n2 = Pl.num (R.extract 4 R.size).data.toList := ⟨_, rfl⟩
      rw [← hn1] at c1
      rw [← hn2] at c2
      clear hA hd p1 p2 cA0 hn1 hn2
      by_cases h24 : n1 < 24
      · have d24 : decide (n1 < 24) = true := decide_eq_true h24
        refine wp_region_quiet_below (by kernel_rfl) (by kernel_rfl) ?_
        repeat (go_big_quiet_step ((first | (go_at_call 15; exact cA _ _) | (go_at_call_of 16 (R.extract 1 3); exact c1 _ _) | (go_at_call_of 16 (R.extract 4 R.size); exact c2 _ _))))
        refine wpQuiet_nil ?_
        intro _ hw'
        obtain ⟨⟨dq, osq⟩, hw''⟩ := hw'
        subst hw''
        go_wp2
        go_meet
        exact ⟨_, rfl, hb3.trans ((below_regrown wc dq osq).mono hb3.size)⟩
      · have d24 : decide (n1 < 24) = false := decide_eq_false h24
        refine wp_region_quiet_below (by kernel_rfl) (by kernel_rfl) ?_
        repeat (go_big_quiet_step ((first | (go_at_call 15; exact cA _ _) | (go_at_call_of 16 (R.extract 1 3); exact c1 _ _) | (go_at_call_of 16 (R.extract 4 R.size); exact c2 _ _))))
        refine wpQuiet_nil ?_
        intro _ hw'
        obtain ⟨⟨dq, osq⟩, hw''⟩ := hw'
        subst hw''
        go_wp2
        go_meet
        exact ⟨_, rfl, hb3.trans ((below_regrown wc dq osq).mono hb3.size)⟩
    · have t0 : ((R[0].toNat : Int) == 43) = false := beq_no h43
      by_cases h45 : (R[0].toNat : Int) = 45
      · have t45 : ((R[0].toNat : Int) == 45) = true := beq_yes h45
        clear h43 h45
        have t0' := t0
        by_cases h3 : (R[3].toNat : Int) = 58
        case neg =>
          have t3 : ((R[3].toNat : Int) == 58) = false := beq_no h3
          clear h3
          refine wp_region_quiet_below (by kernel_rfl) (by kernel_rfl) ?_
          repeat (go_big_quiet_step (fail))
          refine wpQuiet_nil ?_
          intro _ hw'
          obtain ⟨⟨dq, osq⟩, hw''⟩ := hw'
          subst hw''
          go_wp2
          go_meet
          exact ⟨_, rfl, hb3.trans ((below_regrown wc dq osq).mono hb3.size)⟩
        case pos =>
        have t3 : ((R[3].toNat : Int) == 58) = true := beq_yes h3
        clear h3
        cases hA : Pl.allD ((R.data.toList.drop 1).take 2 ++ R.data.toList.drop 4) with
        | false =>
          rw [hA] at cA0
          have cA := fun d os => Calls.regrown_of (w := wc) (cA0 d os)
          clear cA0 hA
          refine wp_region_quiet_below (by kernel_rfl) (by kernel_rfl) ?_
          repeat (go_big_quiet_step ((go_at_call 15; exact cA _ _)))
          refine wpQuiet_nil ?_
          intro _ hw'
          obtain ⟨⟨dq, osq⟩, hw''⟩ := hw'
          subst hw''
          go_wp2
          go_meet
          exact ⟨_, rfl, hb3.trans ((below_regrown wc dq osq).mono hb3.size)⟩
        | true =>
        rw [hA] at cA0
        have cA := fun d os => Calls.regrown_of (w := wc) (cA0 d os)
        have hd := Pl.allD_append hA
        rw [← p1, ← p2] at hd
        have c1 := fun d os => Calls.regrown_of (w := wc) (number (R.extract 1 3) (grow (redrawn wc d) os) (by simp; omega) (by simp; omega) hd.1)
        have c2 := fun d os => Calls.regrown_of (w := wc) (number (R.extract 4 R.size) (grow (redrawn wc d) os) (by simp; omega) (by simp; omega) hd.2)
        obtain ⟨n1, hn1⟩ : ∃ n1, n1 = Pl.num (R.extract 1 3).data.toList := ⟨_, rfl⟩
        obtain ⟨n2, hn2⟩ : ∃ n2, n2 = Pl.num (R.extract 4 R.size).data.toList := ⟨_, rfl⟩
        rw [← hn1] at c1
        rw [← hn2] at c2
        clear hA hd p1 p2 cA0 hn1 hn2
        by_cases h24 : n1 < 24
        · have d24 : decide (n1 < 24) = true := decide_eq_true h24
          refine wp_region_quiet_below (by kernel_rfl) (by kernel_rfl) ?_
          repeat (go_big_quiet_step ((first | (go_at_call 15; exact cA _ _) | (go_at_call_of 16 (R.extract 1 3); exact c1 _ _) | (go_at_call_of 16 (R.extract 4 R.size); exact c2 _ _))))
          refine wpQuiet_nil ?_
          intro _ hw'
          obtain ⟨⟨dq, osq⟩, hw''⟩ := hw'
          subst hw''
          go_wp2
          go_meet
          exact ⟨_, rfl, hb3.trans ((below_regrown wc dq osq).mono hb3.size)⟩
        · have d24 : decide (n1 < 24) = false := decide_eq_false h24
          refine wp_region_quiet_below (by kernel_rfl) (by kernel_rfl) ?_
          repeat (go_big_quiet_step ((first | (go_at_call 15; exact cA _ _) | (go_at_call_of 16 (R.extract 1 3); exact c1 _ _) | (go_at_call_of 16 (R.extract 4 R.size); exact c2 _ _))))
          refine wpQuiet_nil ?_
          intro _ hw'
          obtain ⟨⟨dq, osq⟩, hw''⟩ := hw'
          subst hw''
          go_wp2
          go_meet
          exact ⟨_, rfl, hb3.trans ((below_regrown wc dq osq).mono hb3.size)⟩
      · have t45 : ((R[0].toNat : Int) == 45) = false := beq_no h45
        clear h43 h45
        refine wp_region_quiet_below (by kernel_rfl) (by kernel_rfl) ?_
        repeat (go_big_quiet_step (fail))
        refine wpQuiet_nil ?_
        intro _ hw'
        obtain ⟨⟨dq, osq⟩, hw''⟩ := hw'
        subst hw''
        go_wp2
        go_meet
        exact ⟨_, rfl, hb3.trans ((below_regrown wc dq osq).mono hb3.size)⟩
  case rest =>
  obtain ⟨v, rfl, hb4⟩ := hcut
  cases v with
  | true =>
    go_wp2
    go_ret
    exact ⟨⟨5, rfl, HK5.out⟩, hb4⟩
  | false =>
    go_wp2
    go_ret
    exact ⟨⟨0, rfl, HK0.out⟩, hb4⟩
end Go.Proofs.Qxb6604799aDoor
