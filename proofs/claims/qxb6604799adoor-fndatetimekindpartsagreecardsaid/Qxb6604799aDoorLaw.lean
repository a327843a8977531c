/-
  seat b6604799aD: the law, walked: dateTimeKind and timeOfDay agree on the parts.
-/
import Derived.Test.Qxb6604799aDoorKind
namespace Go.Proofs.Qxb6604799aDoor
open Go Go.RowKit Go.Sort

set_option maxRecDepth 100000 in
set_option maxHeartbeats 400000 in
theorem zkind (s : ByteArray) (w : World) (hs : s.size ≤ 1048576) :
    Calls Tryd.prog 10 #[.string s] w fun e w' => KindEnd s.data.toList e ∧ Below w.heap.size w w' := by
  have HK := Lib.hid (kind s w hs)
  go_enter Tryd.func10, Tryd.ntmps10
  go_wp2_with (go_at_call 14; refine HK.out.mono ?_; rintro e w1 ⟨⟨k, rfl, hk⟩, hb⟩)
  go_ret
  exact ⟨⟨k, rfl, hk⟩, hb⟩

set_option maxRecDepth 100000 in
set_option maxHeartbeats 400000 in
theorem ztime0 (s R : ByteArray) (ok : Bool) (w : World) (h : Calls Tryd.prog 13 #[.string s] w fun e w' => e = .returned (.tuple #[.string R, .bool ok]) ∧ Below w.heap.size w w') :
    Calls Tryd.prog 7 #[.string s] w fun e w' => e = .returned (.tuple #[.string R, .bool ok]) ∧ Below w.heap.size w w' := by
  have HK := Lib.hid h
  clear h
  go_enter Tryd.func7, Tryd.ntmps7
  go_wp2_with (go_at_call 13; refine HK.out.mono ?_; rintro e w1 ⟨rfl, hb⟩)
  go_ret2
  exact ⟨rfl, hb⟩

/-- ZZTimeOfDay: one answer a text, whatever the world. -/
theorem ztime (s : ByteArray) (hs : s.size ≤ 1048576) : ∃ (R : ByteArray) (ok : Bool), (∀ w, Calls Tryd.prog 7 #[.string s] w fun e w' => e = .returned (.tuple #[.string R, .bool ok]) ∧ Below w.heap.size w w') ∧
    ((ok = true ∧ R.toList.isEmpty = true) ↔ Pl.tod s.data.toList = some []) ∧ (∀ r, Pl.tod s.data.toList = some r → ok = true ∧ R.toList.isEmpty = r.isEmpty) := by
  cases ht : Pl.tod s.data.toList with
  | none =>
    refine ⟨⟨#[]⟩, false, fun w => ztime0 s _ _ w ((time s w hs).mono fun e w' h => ⟨?_, h.2⟩), ⟨fun h => (by cases h.1), fun h => (by cases h)⟩, fun r h => (by cases h)⟩
    have h1 := h.1
    unfold TodEnd at h1
    rw [ht] at h1
    exact h1
  | some r =>
    refine ⟨⟨r.toArray⟩, true, fun w => ztime0 s _ _ w ((time s w hs).mono fun e w' h => ⟨?_, h.2⟩), ⟨fun h => ?_, fun h => ?_⟩, fun r' h => ⟨rfl, ?_⟩⟩
    · have h1 := h.1
      unfold TodEnd at h1
      rw [ht] at h1
      exact h1
    · have h2 := h.2
      rw [Lib.toList_data] at h2
      have h3 : r.isEmpty = true := h2
      rw [List.isEmpty_iff] at h3
      rw [h3]
    · injection h with h
      rw [h, Lib.toList_data]
      exact ⟨rfl, rfl⟩
    · injection h with h
      rw [Lib.toList_data, ← h]

set_option maxRecDepth 100000 in
set_option maxHeartbeats 2000000 in
theorem law (s : ByteArray) (w : World) (hs : s.size ≤ maxLen) :
    Calls Tryd.prog 5 #[.string s] w fun e w' => e = .returned (.bool true) ∧ Below w.heap.size w w' := by
  unfold maxLen at hs
  by_cases hbig : 1048576 < s.size
  · go_enter Tryd.func5, Tryd.ntmps5
    go_wp2
    go_ret
    exact ⟨rfl, Below.refl _ _⟩
  have hsz : s.size ≤ 1048576 := by omega
  clear hs
  have HJ := Lib.hid (zkind s w hsz)
  obtain ⟨R, ok, cT, h1, h2⟩ := ztime s hsz
  have CT := Lib.hid cT
  have HL : Hid (s.data.toList.length = s.size) := len_ s
  have H12 : Hid (((ok = true ∧ R.toList.isEmpty = true) ↔ Pl.tod s.data.toList = some []) ∧ True) := ⟨h1, trivial⟩
  clear cT h1 h2
  go_enter Tryd.func5, Tryd.ntmps5
  go_wp2_with (first | (go_at_call 10; refine HJ.out.mono ?_; rintro e w1 ⟨⟨k, rfl, hk⟩, hb1⟩; refine Hid.out ?_) | (go_at_call 12; go_in))
  refine Lib.hid ?_
  obtain ⟨⟨l8, l56, l7⟩, lk⟩ := Pl.law hk
  have hbad : ¬ (k = 8) → ((ok && R.toList.isEmpty) = false) := fun h => by
    cases hx : (ok && R.toList.isEmpty) with
    | false => rfl
    | true =>
      simp only [Bool.and_eq_true] at hx
      exact absurd (l8.2 (H12.out.1.1 hx)) h
  have hgood : k = 8 → (ok && R.toList.isEmpty) = true := fun h => by
    have := H12.out.1.2 (l8.1 h)
    rw [this.1, this.2]
    rfl
  have HB := Lib.hid hbad
  have HG := Lib.hid hgood
  have H56 := Lib.hid l56
  have H7 := Lib.hid l7
  clear hbad hgood l8 l56 l7 hk HJ H12
  rcases lk with rfl | rfl | rfl | rfl | rfl
  · have hf := HB.out (by omega)
    cases ok with
    | false =>
      clear hf
      go_wp2_with (go_at_call 7; refine (CT.out _).mono ?_; rintro e w2 ⟨rfl, hb2⟩)
      go_ret
      exact ⟨rfl, hb1.trans (hb2.mono hb1.size)⟩
    | true =>
      have he : R.toList.isEmpty = false := by simpa using hf
      clear hf
      go_wp2_with (go_at_call 7; refine (CT.out _).mono ?_; rintro e w2 ⟨rfl, hb2⟩)
      go_ret
      exact ⟨rfl, hb1.trans (hb2.mono hb1.size)⟩
  · have hf := HB.out (by omega)
    obtain ⟨hn, h7, r, hr, hr6, hr5⟩ := H56.out (by omega)
    rw [HL.out] at hn
    have n11 : ¬ (s.size : Int) < 11 := by omega
    have i10 : (10 : Int) ≤ (s.size : Int) := by omega
    have i11 : (11 : Int) ≤ (s.size : Int) := by omega
    have p10 : (s.extract 0 10).data.toList = s.data.toList.take 10 := by rw [piece]; simp
    have hK10 : ∀ W, Calls Tryd.prog 10 #[.string (s.extract 0 10)] W fun e w' => e = .returned (.int .u8 7) ∧ Below W.heap.size W w' := fun W =>
      (zkind (s.extract 0 10) W (by simp; omega)).mono fun e w' ⟨⟨k', he, hk'⟩, hb⟩ => ⟨by rw [he, h7 k' (by rw [← p10]; exact hk')], hb⟩
    obtain ⟨R2, ok2, cT2, -, g2⟩ := ztime (s.extract 11 s.size) (by simp; omega)
    have g3 := g2 r (by rw [Lib.extract_to_end]; exact hr)
    have g4 : ok2 = true := g3.1
    have g5 : R2.toList.isEmpty = false := by
      rw [g3.2]
      cases h : r with
      | nil => exact absurd h (hr5 rfl)
      | cons _ _ => rfl
    subst g4
    have CK := Lib.hid hK10
    have CT2 := Lib.hid cT2
    clear hK10 cT2 g2 g3 hr hr6 hr5 h7 p10
    cases ok with
    | false =>
      clear hf
      go_wp2_with (first | (go_at_call_of 7 (Value.string s); refine (CT.out _).mono ?_; rintro e w2 ⟨rfl, hb2⟩) | (go_at_call 10; refine (CK.out _).mono ?_; rintro e w3 ⟨rfl, hb3⟩) | (go_at_call_of 7 (Value.string (s.extract 11 s.size)); refine (CT2.out _).mono ?_; rintro e w4 ⟨rfl, hb4⟩))
      go_ret
      have hx := hb1.trans (hb2.mono hb1.size)
      have hy := hx.trans (hb3.mono hx.size)
      exact ⟨rfl, hy.trans (hb4.mono hy.size)⟩
    | true =>
      have he : R.toList.isEmpty = false := by simpa using hf
      clear hf
      go_wp2_with (first | (go_at_call_of 7 (Value.string s); refine (CT.out _).mono ?_; rintro e w2 ⟨rfl, hb2⟩) | (go_at_call 10; refine (CK.out _).mono ?_; rintro e w3 ⟨rfl, hb3⟩) | (go_at_call_of 7 (Value.string (s.extract 11 s.size)); refine (CT2.out _).mono ?_; rintro e w4 ⟨rfl, hb4⟩))
      go_ret
      have hx := hb1.trans (hb2.mono hb1.size)
      have hy := hx.trans (hb3.mono hx.size)
      exact ⟨rfl, hy.trans (hb4.mono hy.size)⟩
  · have hf := HB.out (by omega)
    obtain ⟨hn, h7, r, hr, hr6, hr5⟩ := H56.out (by omega)
    rw [HL.out] at hn
    have n11 : ¬ (s.size : Int) < 11 := by omega
    have i10 : (10 : Int) ≤ (s.size : Int) := by omega
    have i11 : (11 : Int) ≤ (s.size : Int) := by omega
    have p10 : (s.extract 0 10).data.toList = s.data.toList.take 10 := by rw [piece]; simp
    have hK10 : ∀ W, Calls Tryd.prog 10 #[.string (s.extract 0 10)] W fun e w' => e = .returned (.int .u8 7) ∧ Below W.heap.size W w' := fun W =>
      (zkind (s.extract 0 10) W (by simp; omega)).mono fun e w' ⟨⟨k', he, hk'⟩, hb⟩ => ⟨by rw [he, h7 k' (by rw [← p10]; exact hk')], hb⟩
    obtain ⟨R2, ok2, cT2, -, g2⟩ := ztime (s.extract 11 s.size) (by simp; omega)
    have g3 := g2 r (by rw [Lib.extract_to_end]; exact hr)
    have g4 : ok2 = true := g3.1
    have g5 : R2.toList.isEmpty = true := by
      rw [g3.2]
      rw [hr6 rfl]; rfl
    subst g4
    have CK := Lib.hid hK10
    have CT2 := Lib.hid cT2
    clear hK10 cT2 g2 g3 hr hr6 hr5 h7 p10
    cases ok with
    | false =>
      clear hf
      go_wp2_with (first | (go_at_call_of 7 (Value.string s); refine (CT.out _).mono ?_; rintro e w2 ⟨rfl, hb2⟩) | (go_at_call 10; refine (CK.out _).mono ?_; rintro e w3 ⟨rfl, hb3⟩) | (go_at_call_of 7 (Value.string (s.extract 11 s.size)); refine (CT2.out _).mono ?_; rintro e w4 ⟨rfl, hb4⟩))
      go_ret
      have hx := hb1.trans (hb2.mono hb1.size)
      have hy := hx.trans (hb3.mono hx.size)
      exact ⟨rfl, hy.trans (hb4.mono hy.size)⟩
    | true =>
      have he : R.toList.isEmpty = false := by simpa using hf
      clear hf
      go_wp2_with (first | (go_at_call_of 7 (Value.string s); refine (CT.out _).mono ?_; rintro e w2 ⟨rfl, hb2⟩) | (go_at_call 10; refine (CK.out _).mono ?_; rintro e w3 ⟨rfl, hb3⟩) | (go_at_call_of 7 (Value.string (s.extract 11 s.size)); refine (CT2.out _).mono ?_; rintro e w4 ⟨rfl, hb4⟩))
      go_ret
      have hx := hb1.trans (hb2.mono hb1.size)
      have hy := hx.trans (hb3.mono hx.size)
      exact ⟨rfl, hy.trans (hb4.mono hy.size)⟩
  · have hf := HB.out (by omega)
    have h10 := H7.out rfl
    rw [HL.out] at h10
    have t10 : ((s.size : Int) == 10) = true := beq_yes (by omega)
    clear h10
    cases ok with
    | false =>
      clear hf
      go_wp2_with (go_at_call 7; refine (CT.out _).mono ?_; rintro e w2 ⟨rfl, hb2⟩)
      go_ret
      exact ⟨rfl, hb1.trans (hb2.mono hb1.size)⟩
    | true =>
      have he : R.toList.isEmpty = false := by simpa using hf
      clear hf
      go_wp2_with (go_at_call 7; refine (CT.out _).mono ?_; rintro e w2 ⟨rfl, hb2⟩)
      go_ret
      exact ⟨rfl, hb1.trans (hb2.mono hb1.size)⟩
  · have hf := HG.out rfl
    have hok : ok = true := by simp at hf; exact hf.1
    have he : R.toList.isEmpty = true := by simp only [Bool.and_eq_true] at hf; exact hf.2
    subst hok
    clear hf
    go_wp2_with (go_at_call 7; refine (CT.out _).mono ?_; rintro e w2 ⟨rfl, hb2⟩)
    go_ret
    exact ⟨rfl, hb1.trans (hb2.mono hb1.size)⟩
end Go.Proofs.Qxb6604799aDoor
