/-
  seat b6604462aD: zzAppendLineB1, walked.
-/
import Derived.Test.Qxb6604462aDoorConcat
namespace Go.Proofs.Qxb6604462aDoor
open Go Go.RowKit

/-- The row v of the world w, grown to hold xs: in v' of the world w'. -/
structure Ap (base : Nat) (v : Value) (w : World) (xs : List UInt8) (v' : Value) (w' : World) : Prop where
  row : w'.ownsRow base 5 1 v' xs.length (Lib.byteCells xs)
  kp : Keep (fun k => v.ownBlock = some k) w w'
  fr : Fresh w v v'

theorem Ap.start {base : Nat} {v : Value} {w : World} {xs : List UInt8} (h : w.ownsRow base 5 1 v xs.length (Lib.byteCells xs)) : Ap base v w xs v w := ⟨h, Keep.refl _ _, Or.inl rfl⟩

theorem Ap.step {base : Nat} {v v1 v2 : Value} {w w1 W W2 : World} {xs ys : List UInt8} (h : Ap base v w xs v1 w1) (hW : Keep (fun _ => False) w1 W) {m : Nat} {news : List Value} (hm : m = ys.length) (hn : news = Lib.byteCells ys) (h1 : W2.ownsRow base 5 1 v2 (xs.length + m) (Lib.byteCells xs ++ news)) (hg : W.grownBy W2 v1.ownBlock) (hf : Fresh W v1 v2) : Ap base v w (xs ++ ys) v2 W2 := by
  refine ⟨?_, ?_, ?_⟩
  · subst hm hn
    rw [List.length_append]
    have e : Lib.byteCells (xs ++ ys) = Lib.byteCells xs ++ Lib.byteCells ys := by simp [Lib.byteCells]
    rw [e]
    exact h1
  · refine (h.kp.trans (hW.mono (fun _ h => h.elim))).trans' (keep_grown hg) (fun k hk => ?_)
    rcases h.fr with hf | hf
    · exact Or.inl (hf ▸ hk)
    · exact Or.inr (hf k hk)
  · exact (h.fr.trans (Nat.le_trans h.kp.size hW.size) hf)

def LinePost (base : Nat) (v : Value) (w : World) (xs : List UInt8) (e : Ending) (w' : World) : Prop := ∃ v', e = .returned v' ∧ Ap base v w xs v' w'

theorem byte_new (w : World) (b : Int) (t : TypeId) : ∀ j u, [Value.int .u8 b][j]? = some u → (w.alloc (.cells #[.int .u8 b] t)).cell? ((⟨w.heap.size, 0, none⟩ : Addr).add j) = some u := cell_one_new w (.int .u8 b) t

set_option maxRecDepth 100000 in
set_option maxHeartbeats 4000000 in
theorem appendLine (base : Nat) (v : Value) (xs : List UInt8) (P Q : ByteArray) (w : World) (h : w.ownsRow base 5 1 v xs.length (Lib.byteCells xs)) (hx : xs.length ≤ 4000000000) (hP : P.size ≤ 1048576) (hQ : Q.size ≤ 1048600) (hb : base ≤ w.heap.size) :
    Calls Tryd.prog 26 #[v, .string P, .string Q] w fun e w' => LinePost base v w (xs ++ lineB (P, Q)) e w' := by
  obtain ⟨i0, hi, hz0, hz1, hz2⟩ := infoByte
  obtain ⟨p0, c0, hv⟩ := slice_of_own h
  have HA0 := Lib.hid (Ap.start h)
  subst hv
  clear h
  obtain ⟨C0, hC0⟩ : ∃ C, C = xs := ⟨_, rfl⟩
  have HC0 := Lib.hid hC0
  have HL0 : Hid (C0.length = xs.length) := Lib.hid (by rw [hC0])
  have HA0 : Hid (Ap base (.slice p0 xs.length c0) w C0 (.slice p0 xs.length c0) w) := Lib.hid (by rw [hC0]; exact HA0.out)
  have HR0 : Hid (w.ownsRow base 5 1 (.slice p0 xs.length c0) xs.length (Lib.byteCells C0)) := Lib.hid (by have := HA0.out.row; rw [HL0.out] at this; exact this)
  clear hC0
  by_cases hq : Q = ⟨#[]⟩
  · have hline : lineB (P, Q) = [34] ++ P.data.toList ++ [34] := by
      unfold lineB
      rw [if_pos (by rw [hq])]
      simp
    rw [hline]
    clear hline
    subst hq
    go_enter Tryd.func26, Tryd.ntmps26
    go_wp2_with (at_builtin; refine wpList_append_fresh _ rfl _ _ 51 rfl base 5 i0 (.int .u8 0) 1 1 Tryd.underlying51 hi hz0 hz1 hz2 rfl (by decide) (.slice p0 (xs.length) c0) (xs.length) (Lib.byteCells (C0)) rfl (HR0.out.alloc _) ⟨w.heap.size, 0, none⟩ 1 1 [Value.int .u8 34] rfl rfl (byte_new _ _ _) (by intro u hu; simp at hu; subst hu; rfl) (by unfold maxLen; omega) (by omega) (by simp; omega) ?_)
    intro v1 w1 g1 g2 g3
    obtain ⟨C1, hC1⟩ : ∃ C, C = C0 ++ [34] := ⟨_, rfl⟩
    have hA1 := HA0.out.step ((Keep.refl _ _).alloc _) (ys := [34]) rfl rfl (by rw [HL0.out]; exact g1) g2 g3
    rw [← hC1] at hA1
    have HA1 := Lib.hid hA1
    have HL1 : Hid (C1.length = xs.length + 1) := Lib.hid (by rw [hC1, List.length_append, HL0.out]; rfl)
    have HC1 := Lib.hid hC1
    obtain ⟨p1, c1, hv⟩ := slice_of_own g1
    subst hv
    have HR1 : Hid (w1.ownsRow base 5 1 (.slice p1 (xs.length + 1) c1) (xs.length + 1) (Lib.byteCells C1)) := Lib.hid (by have := hA1.row; rw [HL1.out] at this; exact this)
    have hs1 := hA1.kp.size
    clear g1 g2 g3 hA1 hC1 HA0 HR0
    go_wp2_with (at_builtin; refine wpList_append_str_fresh _ rfl _ _ 51 9 rfl base 5 i0 Tryd.underlying51 Tryd.underlying9 hi hz0 hz1 hz2 (.slice p1 (xs.length + 1) c1) (xs.length + 1) (Lib.byteCells (C1)) rfl HR1.out P rfl (by unfold maxLen; omega) (by omega) (by omega) ?_)
    intro v2 w2 g1 g2 g3
    obtain ⟨C2, hC2⟩ : ∃ C, C = C1 ++ P.data.toList := ⟨_, rfl⟩
    have hA2 := HA1.out.step (Keep.refl _ _) (ys := P.data.toList) (Lib.size_eq P) rfl (by rw [HL1.out]; exact g1) g2 g3
    rw [← hC2] at hA2
    have HA2 := Lib.hid hA2
    have HL2 : Hid (C2.length = xs.length + 1 + P.size) := Lib.hid (by rw [hC2, List.length_append, HL1.out, ← Lib.size_eq])
    have HC2 := Lib.hid hC2
    obtain ⟨p2, c2, hv⟩ := slice_of_own g1
    subst hv
    have HR2 : Hid (w2.ownsRow base 5 1 (.slice p2 (xs.length + 1 + P.size) c2) (xs.length + 1 + P.size) (Lib.byteCells C2)) := Lib.hid (by have := hA2.row; rw [HL2.out] at this; exact this)
    have hs2 := hA2.kp.size
    clear g1 g2 g3 hA2 hC2 HA1 HR1
    go_wp2_with (at_builtin; refine wpList_append_fresh _ rfl _ _ 51 rfl base 5 i0 (.int .u8 0) 1 1 Tryd.underlying51 hi hz0 hz1 hz2 rfl (by decide) (.slice p2 (xs.length + 1 + P.size) c2) (xs.length + 1 + P.size) (Lib.byteCells (C2)) rfl (HR2.out.alloc _) ⟨w2.heap.size, 0, none⟩ 1 1 [Value.int .u8 34] rfl rfl (byte_new _ _ _) (by intro u hu; simp at hu; subst hu; rfl) (by unfold maxLen; omega) (by omega) (by simp; omega) ?_)
    intro v3 w3 g1 g2 g3
    obtain ⟨C3, hC3⟩ : ∃ C, C = C2 ++ [34] := ⟨_, rfl⟩
    have hA3 := HA2.out.step ((Keep.refl _ _).alloc _) (ys := [34]) rfl rfl (by rw [HL2.out]; exact g1) g2 g3
    rw [← hC3] at hA3
    have HA3 := Lib.hid hA3
    have HL3 : Hid (C3.length = xs.length + 1 + P.size + 1) := Lib.hid (by rw [hC3, List.length_append, HL2.out]; rfl)
    have HC3 := Lib.hid hC3
    obtain ⟨p3, c3, hv⟩ := slice_of_own g1
    subst hv
    have HR3 : Hid (w3.ownsRow base 5 1 (.slice p3 (xs.length + 1 + P.size + 1) c3) (xs.length + 1 + P.size + 1) (Lib.byteCells C3)) := Lib.hid (by have := hA3.row; rw [HL3.out] at this; exact this)
    have hs3 := hA3.kp.size
    clear g1 g2 g3 hA3 hC3 HA2 HR2
    go_wp2
    go_ret
    refine ⟨_, rfl, ?_⟩
    have hfin := HA3.out
    rw [HC3.out, HC2.out, HC1.out, HC0.out] at hfin
    simpa using hfin
  · have hline : lineB (P, Q) = Q.data.toList ++ [32] ++ [34] ++ P.data.toList ++ [34] := by
      unfold lineB
      rw [if_neg (fun he => hq (str_eq (by simpa using he)))]
      simp
    have hb1 := str_no hq
    have hb2 : Q.toList.isEmpty = false := by
      rw [ByteArray.toList_eq]
      cases hqq : Q.data.toList with
      | nil => exact absurd (str_eq (by simpa using hqq)) hq
      | cons a l => rfl
    rw [hline]
    clear hline hq
    go_enter Tryd.func26, Tryd.ntmps26
    go_wp2_with (at_builtin; refine wpList_append_str_fresh _ rfl _ _ 51 9 rfl base 5 i0 Tryd.underlying51 Tryd.underlying9 hi hz0 hz1 hz2 (.slice p0 (xs.length) c0) (xs.length) (Lib.byteCells (C0)) rfl HR0.out Q rfl (by unfold maxLen; omega) (by omega) (by omega) ?_)
    intro v1 w1 g1 g2 g3
    obtain ⟨C1, hC1⟩ : ∃ C, C = C0 ++ Q.data.toList := ⟨_, rfl⟩
    have hA1 := HA0.out.step (Keep.refl _ _) (ys := Q.data.toList) (Lib.size_eq Q) rfl (by rw [HL0.out]; exact g1) g2 g3
    rw [← hC1] at hA1
    have HA1 := Lib.hid hA1
    have HL1 : Hid (C1.length = xs.length + Q.size) := Lib.hid (by rw [hC1, List.length_append, HL0.out, ← Lib.size_eq])
    have HC1 := Lib.hid hC1
    obtain ⟨p1, c1, hv⟩ := slice_of_own g1
    subst hv
    have HR1 : Hid (w1.ownsRow base 5 1 (.slice p1 (xs.length + Q.size) c1) (xs.length + Q.size) (Lib.byteCells C1)) := Lib.hid (by have := hA1.row; rw [HL1.out] at this; exact this)
    have hs1 := hA1.kp.size
    clear g1 g2 g3 hA1 hC1 HA0 HR0
    go_wp2_with (at_builtin; refine wpList_append_fresh _ rfl _ _ 51 rfl base 5 i0 (.int .u8 0) 1 1 Tryd.underlying51 hi hz0 hz1 hz2 rfl (by decide) (.slice p1 (xs.length + Q.size) c1) (xs.length + Q.size) (Lib.byteCells (C1)) rfl (HR1.out.alloc _) ⟨w1.heap.size, 0, none⟩ 1 1 [Value.int .u8 32] rfl rfl (byte_new _ _ _) (by intro u hu; simp at hu; subst hu; rfl) (by unfold maxLen; omega) (by omega) (by simp; omega) ?_)
    intro v2 w2 g1 g2 g3
    obtain ⟨C2, hC2⟩ : ∃ C, C = C1 ++ [32] := ⟨_, rfl⟩
    have hA2 := HA1.out.step ((Keep.refl _ _).alloc _) (ys := [32]) rfl rfl (by rw [HL1.out]; exact g1) g2 g3
    rw [← hC2] at hA2
    have HA2 := Lib.hid hA2
    have HL2 : Hid (C2.length = xs.length + Q.size + 1) := Lib.hid (by rw [hC2, List.length_append, HL1.out]; rfl)
    have HC2 := Lib.hid hC2
    obtain ⟨p2, c2, hv⟩ := slice_of_own g1
    subst hv
    have HR2 : Hid (w2.ownsRow base 5 1 (.slice p2 (xs.length + Q.size + 1) c2) (xs.length + Q.size + 1) (Lib.byteCells C2)) := Lib.hid (by have := hA2.row; rw [HL2.out] at this; exact this)
    have hs2 := hA2.kp.size
    clear g1 g2 g3 hA2 hC2 HA1 HR1
    go_wp2_with (at_builtin; refine wpList_append_fresh _ rfl _ _ 51 rfl base 5 i0 (.int .u8 0) 1 1 Tryd.underlying51 hi hz0 hz1 hz2 rfl (by decide) (.slice p2 (xs.length + Q.size + 1) c2) (xs.length + Q.size + 1) (Lib.byteCells (C2)) rfl (HR2.out.alloc _) ⟨w2.heap.size, 0, none⟩ 1 1 [Value.int .u8 34] rfl rfl (byte_new _ _ _) (by intro u hu; simp at hu; subst hu; rfl) (by unfold maxLen; omega) (by omega) (by simp; omega) ?_)
    intro v3 w3 g1 g2 g3
    obtain ⟨C3, hC3⟩ : ∃ C, C = C2 ++ [34] := ⟨_, rfl⟩
    have hA3 := HA2.out.step ((Keep.refl _ _).alloc _) (ys := [34]) rfl rfl (by rw [HL2.out]; exact g1) g2 g3
    rw [← hC3] at hA3
    have HA3 := Lib.hid hA3
    have HL3 : Hid (C3.length = xs.length + Q.size + 1 + 1) := Lib.hid (by rw [hC3, List.length_append, HL2.out]; rfl)
    have HC3 := Lib.hid hC3
    obtain ⟨p3, c3, hv⟩ := slice_of_own g1
    subst hv
    have HR3 : Hid (w3.ownsRow base 5 1 (.slice p3 (xs.length + Q.size + 1 + 1) c3) (xs.length + Q.size + 1 + 1) (Lib.byteCells C3)) := Lib.hid (by have := hA3.row; rw [HL3.out] at this; exact this)
    have hs3 := hA3.kp.size
    clear g1 g2 g3 hA3 hC3 HA2 HR2
    go_wp2_with (at_builtin; refine wpList_append_str_fresh _ rfl _ _ 51 9 rfl base 5 i0 Tryd.underlying51 Tryd.underlying9 hi hz0 hz1 hz2 (.slice p3 (xs.length + Q.size + 1 + 1) c3) (xs.length + Q.size + 1 + 1) (Lib.byteCells (C3)) rfl HR3.out P rfl (by unfold maxLen; omega) (by omega) (by omega) ?_)
    intro v4 w4 g1 g2 g3
    obtain ⟨C4, hC4⟩ : ∃ C, C = C3 ++ P.data.toList := ⟨_, rfl⟩
    have hA4 := HA3.out.step (Keep.refl _ _) (ys := P.data.toList) (Lib.size_eq P) rfl (by rw [HL3.out]; exact g1) g2 g3
    rw [← hC4] at hA4
    have HA4 := Lib.hid hA4
    have HL4 : Hid (C4.length = xs.length + Q.size + 1 + 1 + P.size) := Lib.hid (by rw [hC4, List.length_append, HL3.out, ← Lib.size_eq])
    have HC4 := Lib.hid hC4
    obtain ⟨p4, c4, hv⟩ := slice_of_own g1
    subst hv
    have HR4 : Hid (w4.ownsRow base 5 1 (.slice p4 (xs.length + Q.size + 1 + 1 + P.size) c4) (xs.length + Q.size + 1 + 1 + P.size) (Lib.byteCells C4)) := Lib.hid (by have := hA4.row; rw [HL4.out] at this; exact this)
    have hs4 := hA4.kp.size
    clear g1 g2 g3 hA4 hC4 HA3 HR3
    go_wp2_with (at_builtin; refine wpList_append_fresh _ rfl _ _ 51 rfl base 5 i0 (.int .u8 0) 1 1 Tryd.underlying51 hi hz0 hz1 hz2 rfl (by decide) (.slice p4 (xs.length + Q.size + 1 + 1 + P.size) c4) (xs.length + Q.size + 1 + 1 + P.size) (Lib.byteCells (C4)) rfl (HR4.out.alloc _) ⟨w4.heap.size, 0, none⟩ 1 1 [Value.int .u8 34] rfl rfl (byte_new _ _ _) (by intro u hu; simp at hu; subst hu; rfl) (by unfold maxLen; omega) (by omega) (by simp; omega) ?_)
    intro v5 w5 g1 g2 g3
    obtain ⟨C5, hC5⟩ : ∃ C, C = C4 ++ [34] := ⟨_, rfl⟩
    have hA5 := HA4.out.step ((Keep.refl _ _).alloc _) (ys := [34]) rfl rfl (by rw [HL4.out]; exact g1) g2 g3
    rw [← hC5] at hA5
    have HA5 := Lib.hid hA5
    have HL5 : Hid (C5.length = xs.length + Q.size + 1 + 1 + P.size + 1) := Lib.hid (by rw [hC5, List.length_append, HL4.out]; rfl)
    have HC5 := Lib.hid hC5
    obtain ⟨p5, c5, hv⟩ := slice_of_own g1
    subst hv
    have HR5 : Hid (w5.ownsRow base 5 1 (.slice p5 (xs.length + Q.size + 1 + 1 + P.size + 1) c5) (xs.length + Q.size + 1 + 1 + P.size + 1) (Lib.byteCells C5)) := Lib.hid (by have := hA5.row; rw [HL5.out] at this; exact this)
    have hs5 := hA5.kp.size
    clear g1 g2 g3 hA5 hC5 HA4 HR4
    go_wp2
    go_ret
    refine ⟨_, rfl, ?_⟩
    have hfin := HA5.out
    rw [HC5.out, HC4.out, HC3.out, HC2.out, HC1.out, HC0.out] at hfin
    simpa using hfin
end Go.Proofs.Qxb6604462aDoor
