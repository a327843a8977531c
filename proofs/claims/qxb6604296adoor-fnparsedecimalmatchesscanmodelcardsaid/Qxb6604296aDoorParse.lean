/-
  seat b6604296aD: parseDecimal, walked: what it returns at a JSON number.
-/
import Derived.Test.Qxb6604296aDoorShelf
import Derived.Test.Qxb6604296aDoorPlain
import Derived.Test.Qxb6604296aDoorModel
import Derived.Stop.LaidErr
import Derived.Deep.DeepFit
namespace Go.Proofs.Qxb6604296aDoor
open Go Go.RowKit

/-- What parseDecimal answers: the zero decimal where no digit counts. -/
def ParseEnd (l : List UInt8) (a b c : Nat) (E : Int) (e : Ending) : Prop :=
  e = if (Pl.st l a c).2.1 = [] then .returned (.agg #[.bool false, .string ⟨#[]⟩, .int .i64 0])
    else .returned (.agg #[.bool (decide (a = 1)), .string ⟨(Pl.st l a c).2.1.toArray⟩, .int .i64 ((b : Int) - a - (Pl.st l a c).1 + E)])

/-- The two blocks that the call has made: the result's (zero as yet), the variable d's. -/
structure St (w wx : World) (n : Bool) (dg : ByteArray) (pt : Int) : Prop where
  below : Below w.heap.size w wx
  size : w.heap.size + 1 < wx.heap.size
  r0 : wx.cell? ⟨w.heap.size, 0, none⟩ = some (.bool false)
  r1 : wx.cell? ⟨w.heap.size, 1, none⟩ = some (.string ⟨#[]⟩)
  r2 : wx.cell? ⟨w.heap.size, 2, none⟩ = some (.int .i64 0)
  d0 : wx.cell? ⟨w.heap.size + 1, 0, none⟩ = some (.bool n)
  d1 : wx.cell? ⟨w.heap.size + 1, 1, none⟩ = some (.string dg)
  d2 : wx.cell? ⟨w.heap.size + 1, 2, none⟩ = some (.int .i64 pt)
  f : ∀ b o, w.heap.size ≤ b → b ≤ w.heap.size + 1 → wx.frozen? ⟨b, o, none⟩ = false
theorem St.on {w wx wy : World} {n : Bool} {dg : ByteArray} {pt : Int} (h : St w wx n dg pt) (hb : Below wx.heap.size wx wy) : St w wy n dg pt :=
  have hz := h.size
  have c : ∀ b o, b ≤ w.heap.size + 1 → wy.cell? ⟨b, o, none⟩ = wx.cell? ⟨b, o, none⟩ := fun b o hb' => hb.cell (p := ⟨b, o, none⟩) (by simp; omega)
  { below := h.below.trans (hb.mono h.below.size), size := by have := hb.size; omega
    r0 := (c _ _ (by omega)).trans h.r0, r1 := (c _ _ (by omega)).trans h.r1, r2 := (c _ _ (by omega)).trans h.r2
    d0 := (c _ _ (by omega)).trans h.d0, d1 := (c _ _ (by omega)).trans h.d1, d2 := (c _ _ (by omega)).trans h.d2
    f := fun b o h1 h2 => (hb.frozen (p := ⟨b, o, none⟩) (by simp; omega)).trans (h.f b o h1 h2) }
theorem St.drewN {w wx : World} {n : Bool} {dg : ByteArray} {pt : Int} (h : St w wx n dg pt) (q : Nat) : St w (wx.drewN q) n dg pt := h.on (below_drewN (Below.refl _ _) q)
theorem St.start (w : World) (n : Bool) : St w ((w.alloc (.cells #[.bool false, .string ⟨#[]⟩, .int .i64 0] 27)).alloc (.cells #[.bool n, .string ⟨#[]⟩, .int .i64 0] 27)) n ⟨#[]⟩ 0 :=
  { below := ((Below.refl _ _).alloc (Nat.le_refl _) _).alloc (by simp) _, size := by simp
    r0 := by rw [World.cell?_alloc_past _ _ _ (by simp), World.cell?_alloc_at _ _ _ _ rfl]; rfl
    r1 := by rw [World.cell?_alloc_past _ _ _ (by simp), World.cell?_alloc_at _ _ _ _ rfl]; rfl
    r2 := by rw [World.cell?_alloc_past _ _ _ (by simp), World.cell?_alloc_at _ _ _ _ rfl]; rfl
    d0 := by rw [World.cell?_alloc_at _ _ _ _ (by simp)]; rfl
    d1 := by rw [World.cell?_alloc_at _ _ _ _ (by simp)]; rfl
    d2 := by rw [World.cell?_alloc_at _ _ _ _ (by simp)]; rfl
    f := fun b o h1 h2 => by
      by_cases e : b = w.heap.size + 1
      · subst e; exact World.frozen?_alloc_at _ _ _ _ (by simp)
      · have e' : b = w.heap.size := by omega
        subst e'
        rw [World.frozen?_alloc_past _ _ _ (by simp)]
        exact World.frozen?_alloc_at _ _ _ _ rfl }

theorem St.set1 {w wx : World} {n : Bool} {dg : ByteArray} {pt : Int} (h : St w wx n dg pt) (x : ByteArray) : St w (wx.setCell ⟨w.heap.size + 1, 1, none⟩ (.string x)) n x pt :=
  { below := h.below.setCell (by simp) _, size := by rw [World.size_setCell]; exact h.size
    r0 := by rw [World.cell?_setCell_other _ _ _ _ (by simp)]; exact h.r0
    r1 := by rw [World.cell?_setCell_other _ _ _ _ (by simp)]; exact h.r1
    r2 := by rw [World.cell?_setCell_other _ _ _ _ (by simp)]; exact h.r2
    d0 := by rw [World.cell?_setCell_other _ _ _ _ (by simp)]; exact h.d0
    d1 := World.cell?_setCell_same _ _ _ h.d1
    d2 := by rw [World.cell?_setCell_other _ _ _ _ (by simp)]; exact h.d2
    f := fun b o h1 h2 => by rw [World.frozen?_setCell]; exact h.f b o h1 h2 }
theorem St.set2 {w wx : World} {n : Bool} {dg : ByteArray} {pt : Int} (h : St w wx n dg pt) (x : Int) : St w (wx.setCell ⟨w.heap.size + 1, 2, none⟩ (.int .i64 x)) n dg x :=
  { below := h.below.setCell (by simp) _, size := by rw [World.size_setCell]; exact h.size
    r0 := by rw [World.cell?_setCell_other _ _ _ _ (by simp)]; exact h.r0
    r1 := by rw [World.cell?_setCell_other _ _ _ _ (by simp)]; exact h.r1
    r2 := by rw [World.cell?_setCell_other _ _ _ _ (by simp)]; exact h.r2
    d0 := by rw [World.cell?_setCell_other _ _ _ _ (by simp)]; exact h.d0
    d1 := by rw [World.cell?_setCell_other _ _ _ _ (by simp)]; exact h.d1
    d2 := World.cell?_setCell_same _ _ _ h.d2
    f := fun b o h1 h2 => by rw [World.frozen?_setCell]; exact h.f b o h1 h2 }

/-- How ParseInt ends at the exponent, and what that makes of it. -/
theorem exp_sum {l : List UInt8} {c : Nat} {E : Int} (ex : List UInt8) (hex : (c = l.length ∧ ex = [48]) ∨ (c < l.length ∧ ex = l.drop (c + 1))) (hE : ExpIs l c E) :
    (Lib.parseIntB 64 (Lib.trimPrefix ex [43]) = .ok E ∧ -4611686018427387904 ≤ E ∧ E ≤ 4611686018427387904) ∨
    ((Lib.parseIntB 64 (Lib.trimPrefix ex [43]) = .range ∨ ∃ v, Lib.parseIntB 64 (Lib.trimPrefix ex [43]) = .ok v ∧ (4611686018427387904 < v ∨ v < -4611686018427387904)) ∧
      ((Lib.hasPrefix ex [45] = true ∧ E = -4611686018427387904) ∨ (Lib.hasPrefix ex [45] = false ∧ E = 4611686018427387904))) := by
  rcases hE with ⟨h1, h2⟩ | ⟨d, m, he, hE⟩
  · rcases hex with ⟨-, rfl⟩ | ⟨h3, -⟩
    · left
      refine ⟨?_, by omega, by omega⟩
      have e : Lib.trimPrefix [48] [43] = [48] := by decide
      have h48 : Pl.Ds [48] := fun x hx => by simp at hx; subst hx; exact ⟨by decide, by decide⟩
      rw [e, Pl.parseInt_digits 48 [] h48, h2]
      rfl
    · omega
  · have hlt := he.lt
    have hcl : c < l.length := by have := he.sign; omega
    rcases hex with ⟨h3, -⟩ | ⟨-, rfl⟩
    · omega
    have hv := Pl.valA_se he.dg
    have hds := Pl.DgR.mem he.dg
    rw [List.take_of_length_le (by rw [List.length_drop]; omega)] at hds
    obtain ⟨x, r, hxr⟩ : ∃ x r, l.drop d = x :: r := by
      cases h : l.drop d with
      | nil => have := List.length_drop (i := d) (l := l); rw [h] at this; simp at this; omega
      | cons x r => exact ⟨x, r, rfl⟩
    rw [hxr] at hds hv
    have hx := hds.cons.1
    have hx43 : x ≠ 43 := fun e => by rw [e] at hx; exact absurd hx.1 (by decide)
    have hx45 : x ≠ 45 := fun e => by rw [e] at hx; exact absurd hx.1 (by decide)
    generalize hvv : Pl.valA 0 (x :: r) = v at hv
    rw [hv] at hE
    have hsgn : (m = false ∧ Lib.trimPrefix (l.drop (c + 1)) [43] = x :: r ∧ Lib.hasPrefix (l.drop (c + 1)) [45] = false) ∨ (m = true ∧ Lib.trimPrefix (l.drop (c + 1)) [43] = 45 :: x :: r ∧ Lib.hasPrefix (l.drop (c + 1)) [45] = true) := by
      have nx : ∀ y, l[c + 1]? = some y → l.drop (c + 1) = y :: l.drop (c + 2) := fun y hy => by
        have h' := (List.getElem?_eq_some_iff.1 hy)
        obtain ⟨h4, h5⟩ := h'
        rw [List.drop_eq_getElem_cons h4, h5]
      rcases he.sign with ⟨h1, h2⟩ | ⟨h1, h2, h3⟩ | ⟨h1, h2, h3⟩
      · left
        rw [← h2, hxr]
        exact ⟨h1, by simp [Lib.trimPrefix, Lib.hasPrefix, Ne.symm hx43], by simp [Lib.hasPrefix, List.isPrefixOf, Ne.symm hx45]⟩
      · left
        rw [nx 43 h3, ← h2, hxr]
        exact ⟨h1, by simp [Lib.trimPrefix, Lib.hasPrefix], by simp [Lib.hasPrefix, List.isPrefixOf]⟩
      · right
        rw [nx 45 h3, ← h2, hxr]
        exact ⟨h1, by simp [Lib.trimPrefix, Lib.hasPrefix], by simp [Lib.hasPrefix]⟩
    simp only [Pl.big] at hE
    rcases hsgn with ⟨rfl, e1, e2⟩ | ⟨rfl, e1, e2⟩
    · rw [e1, e2, Pl.parseInt_digits x r hds, hvv]
      simp only [Bool.false_eq_true, if_false] at hE
      by_cases hb : v ≤ 4611686018427387904
      · left
        rw [if_pos (by omega)]
        have : (v : Int) = E := by omega
        rw [this]
        exact ⟨rfl, by omega, by omega⟩
      · right
        refine ⟨?_, Or.inr ⟨rfl, by omega⟩⟩
        by_cases h63 : v < 9223372036854775808
        · rw [if_pos h63]; exact Or.inr ⟨_, rfl, by omega⟩
        · rw [if_neg h63]; exact Or.inl rfl
    · rw [e1, e2, Pl.parseInt_minus x r hds, hvv]
      simp only [if_true] at hE
      by_cases hb : v ≤ 4611686018427387904
      · left
        rw [if_pos (by omega)]
        have : -(v : Int) = E := by omega
        rw [this]
        exact ⟨rfl, by omega, by omega⟩
      · right
        refine ⟨?_, Or.inl ⟨rfl, by omega⟩⟩
        by_cases h63 : v ≤ 9223372036854775808
        · rw [if_pos h63]; exact Or.inr ⟨_, rfl, by omega⟩
        · rw [if_neg h63]; exact Or.inl rfl

set_option maxRecDepth 100000 in
set_option maxHeartbeats 4000000 in
theorem parse (s : ByteArray) (w : World) (hs : s.size ≤ 1048576) (a b c : Nat) (E : Int) (h2 : Pl.P2 s.data.toList a b c) (hE : ExpIs s.data.toList c E) (tp : TypeId) (p : Value) (hR : w.var? Tryd.prog "strconv.ErrRange" = some #[.iface tp p]) :
    Calls Tryd.prog 9 #[.string s] w fun e w' => ParseEnd s.data.toList a b c E e ∧ Below w.heap.size w w' := by
  have hl := Pl.len_ s
  have hat := Pl.at_ s
  have hp : 0 < s.size := by have := h2.p1.lt; have := h2.p1.le; omega
  have hcn : c ≤ s.size := by have := h2.le; omega
  have hab : a < b := h2.p1.lt
  have hbc : b ≤ c := h2.bc
  have H2 : Hid (Pl.P2 s.data.toList a b c) := h2
  have HL : Hid (s.data.toList.length = s.size) := hl
  have HA : Hid (∀ (i : Nat) (h : i < s.size), s.data.toList[i]? = some s[i]) := hat
  have HR : Hid (w.var? Tryd.prog "strconv.ErrRange" = some #[.iface tp p]) := hR
  have hsg := h2.p1.sg
  have HE : Hid (ExpIs s.data.toList c E) := hE
  clear h2 hl hat hE hR
  go_enter Tryd.func9, Tryd.ntmps9
  go_upto_if 15 with fail
  go_cut [0] from 13 (fun x wx => ∃ t : ByteArray, x = .string t ∧ Hid (t.data.toList = s.data.toList.drop a) ∧ t.size + a = s.size ∧ St w wx (decide (a = 1)) ⟨#[]⟩ 0)
  case first =>
    rcases hsg with ⟨h0, hne⟩ | ⟨h1, he⟩
    · have hb : ((s[0].toNat : Int) == 45) = false := beq_no (fun e => hne (by rw [HA.out 0 hp, Pl.byte_of (n := 45) (by omega) e]; rfl))
      have H0 : Hid (a = 0) := h0
      clear h0 hne
      go_wp2
      go_meet
      rw [H0.out]
      exact ⟨s, rfl, rfl, rfl, St.start w false⟩
    · have hb : ((s[0].toNat : Int) == 45) = true := beq_yes (by rw [HA.out 0 hp] at he; injection he with he; rw [he]; rfl)
      have H0 : Hid (a = 1) := h1
      clear h1 he
      go_wp2
      go_meet
      rw [H0.out]
      exact ⟨s.extract 1 s.size, rfl, Lib.extract_to_end s 1, by simp; omega, St.start w true⟩
  case rest =>
  obtain ⟨t, rfl, Ht, hts, hst⟩ := hcut
  clear hsg
  have hx : (c = s.data.toList.length) ∨ ∃ d m, Pl.Ex s.data.toList c d m := HE.out.elim (fun h => Or.inl h.1) (fun ⟨d, m, h, _⟩ => Or.inr ⟨d, m, h⟩)
  have hasc : ∀ (j : Nat) x, t.data.toList[j]? = some x → x.toNat < 128 := fun j x h => by
    rw [Ht.out, List.getElem?_drop] at h
    exact H2.out.ascii hx (a + j) x (by omega) h
  obtain ⟨i1, hi1, hi2⟩ : ∃ i1 : Int, i1 = Lib.indexAny t.data.toList [101, 69] ∧ ((i1 = -1 ∧ c = s.size) ∨ (i1 = ((c - a : Nat) : Int) ∧ c < s.size)) := by
    refine ⟨_, rfl, ?_⟩
    rw [Ht.out]
    rcases hx with h | ⟨d, m, h⟩
    · left
      have h2 := H2.out
      rw [h] at h2
      exact ⟨Pl.index_none h2, by rw [h, HL.out]⟩
    · right
      exact ⟨Pl.index_some H2.out h, by have h1 := h.lt; have h3 := h.sign; rw [HL.out] at h1; omega⟩
  have hix : Calls Tryd.prog 10 #[.string t, .string ⟨#[101, 69]⟩] wc fun e w' => e = .returned (.int .i64 i1) ∧ Below wc.heap.size wc w' := by
    rw [hi1]
    exact Tryd.strings_IndexAny_laid t ⟨#[101, 69]⟩ wc (by omega) (by decide) hasc (fun j x h => by
      have : x ∈ [101, 69] := List.mem_of_getElem? h
      rcases this with _ | ⟨_, _ | ⟨_, h⟩⟩
      · decide
      · decide
      · cases h)
  have HI : Hid ((i1 = -1 ∧ c = s.size) ∨ (i1 = ((c - a : Nat) : Int) ∧ c < s.size)) := hi2
  clear hi1 hi2 hasc hx
  go_upto_if 23 with (go_at_call 10; refine hix.mono ?_; rintro e w1 ⟨rfl, hb1⟩)
  have hst1 := hst.on hb1
  clear hst hb1 hix
  go_cut [4, 5, 6] from 13 (fun x y _ wx => ∃ mt ex : ByteArray, x = .string mt ∧ y = .string ex ∧ Hid (mt.data.toList = (s.data.toList.drop a).take (c - a)) ∧ mt.size + a = c ∧ Hid ((c = s.size ∧ ex = ⟨#[48]⟩) ∨ (c < s.size ∧ ex.data.toList = s.data.toList.drop (c + 1) ∧ ex.size + (c + 1) = s.size)) ∧ St w wx (decide (a = 1)) ⟨#[]⟩ 0)
  case first =>
    rcases HI.out with ⟨h1, h2⟩ | ⟨h1, h2⟩
    · rw [h1]
      have H1 : Hid (c = s.size) := h2
      clear h1 h2
      go_wp2
      go_meet
      refine ⟨t, ⟨#[48]⟩, rfl, rfl, ?_, by have := H1.out; omega, Or.inl ⟨H1.out, rfl⟩, hst1⟩
      show _ = _
      rw [Ht.out, List.take_of_length_le]
      rw [List.length_drop, HL.out]
      have := H1.out
      omega
    · rw [h1]
      have H1 : Hid (c < s.size) := h2
      have hca : c - a < t.size := by omega
      clear h1
      go_wp2
      go_quiet (fail)
      go_wp2
      go_meet
      refine ⟨_, _, rfl, rfl, ?_, by simp; omega, Or.inr ⟨h2, ?_, by simp; omega⟩, hst1.drewN _⟩
      · show _ = _
        rw [Lib.extract_data, Ht.out, List.drop_zero, Nat.sub_zero]
      · rw [Lib.extract_to_end, Ht.out, List.drop_drop]
        congr 1
        omega
  case rest =>
  obtain ⟨mt, ex, rfl, rfl, Hmt, hms, Hex, hst⟩ := hcut
  clear hst1 HI
  obtain ⟨i2, hi1, hi2⟩ : ∃ i2 : Int, i2 = Lib.indexByte mt.data.toList 46 ∧ ((i2 = -1 ∧ c = b) ∨ (i2 = ((b - a : Nat) : Int) ∧ b < c)) := by
    refine ⟨_, rfl, ?_⟩
    rw [Hmt.out]
    by_cases e : c = b
    · exact Or.inl ⟨Pl.point_none H2.out e, e⟩
    · exact Or.inr ⟨Pl.point_some H2.out e, by omega⟩
  have hix : Calls Tryd.prog 11 #[.string mt, .int .u8 46] wc fun e w' => e = .returned (.int .i64 i2) ∧ wc = w' := by
    rw [hi1]
    exact (Tryd.strings_IndexByte mt 46 wc).mono fun e w' h => ⟨h.1, h.2.symm⟩
  have HI : Hid ((i2 = -1 ∧ c = b) ∨ (i2 = ((b - a : Nat) : Int) ∧ b < c)) := hi2
  clear hi1 hi2
  go_upto_if 35 with (go_at_call 11; refine hix.mono ?_; rintro e w1 ⟨rfl, rfl⟩)
  clear hix
  go_cut [7, 8, 9] from 13 (fun x y _ wx => ∃ wh fr : ByteArray, x = .string wh ∧ y = .string fr ∧ Hid (wh.data.toList ++ fr.data.toList = Pl.dig s.data.toList a c) ∧ wh.size + a = b ∧ wh.size + fr.size ≤ s.size ∧ St w wx (decide (a = 1)) ⟨#[]⟩ 0)
  case first =>
    rcases HI.out with ⟨h1, h2⟩ | ⟨h1, h2⟩
    · rw [h1]
      have H1 : Hid (c = b) := h2
      clear h1 h2
      go_wp2
      go_meet
      refine ⟨mt, ⟨#[]⟩, rfl, rfl, ?_, by have := H1.out; omega, by show mt.size + 0 ≤ s.size; omega, hst⟩
      show _ = _
      rw [Pl.dig_whole H2.out H1.out, Hmt.out, H1.out]
      simp
    · rw [h1]
      have hca : b - a < mt.size := by omega
      clear h1
      go_wp2
      go_quiet (fail)
      go_wp2
      go_meet
      refine ⟨_, _, rfl, rfl, ?_, by simp; omega, by simp; omega, hst.drewN _⟩
      show _ = _
      rw [Pl.dig_parts H2.out (by omega), Lib.extract_data, Lib.extract_to_end, Hmt.out, List.drop_zero, Nat.sub_zero, List.take_take, List.drop_take, List.drop_drop]
      congr 1
      · congr 1; omega
      · congr 1
        · omega
        · congr 1; omega
  case rest =>
  obtain ⟨wh, fr, rfl, rfl, Hdig, hwa, hwf, hst0⟩ := hcut
  clear hst HI Hmt hms
  obtain ⟨TL, hTL⟩ : ∃ TL : ByteArray, TL = ⟨(Lib.trimLeftB (wh ++ fr).data.toList 48).toArray⟩ := ⟨_, rfl⟩
  obtain ⟨SG, hSG⟩ : ∃ SG : ByteArray, SG = ⟨(Lib.trimRightB TL.data.toList 48).toArray⟩ := ⟨_, rfl⟩
  have hdd : (wh ++ fr).data.toList = Pl.dig s.data.toList a c := by rw [← Hdig.out]; simp
  have HSG : Hid (SG.data.toList = (Pl.st s.data.toList a c).2.1) := by
    show _ = _
    rw [hSG, (Pl.st_pass s.data.toList a c).1, hTL, hdd]
  have hld := (Pl.st_pass s.data.toList a c).2
  have hTs : TL.size = (Lib.trimLeftB (Pl.dig s.data.toList a c) 48).length := by rw [hTL, hdd]; simp [ByteArray.size]
  have hds : (Pl.dig s.data.toList a c).length = wh.size + fr.size := by rw [← hdd]; simp
  obtain ⟨ld, hldd⟩ : ∃ ld, ld = (Pl.st s.data.toList a c).1 := ⟨_, rfl⟩
  rw [← hTs, hds, ← hldd] at hld
  have HLd : Hid (ld = (Pl.st s.data.toList a c).1) := hldd
  have hTLc : Calls Tryd.prog 12 #[.string (wh ++ fr), .string ⟨#[48]⟩] wc fun e w' => e = .returned (.string TL) ∧ wc = w' := by
    rw [hTL]
    exact (Tryd.strings_TrimLeft_one (wh ++ fr) 48 (by decide) wc).mono fun e w' h => ⟨h.1, h.2.symm⟩
  have hTsz : TL.size ≤ 1048576 := by omega
  have hSGc : ∀ W : World, Calls Tryd.prog 13 #[.string TL, .string ⟨#[48]⟩] W fun e w' => e = .returned (.string SG) ∧ W = w' := fun W => by
    rw [hSG]
    exact (Tryd.strings_TrimRight_one TL 48 (by decide) W (by omega)).mono fun e w' h => ⟨h.1, h.2.symm⟩
  have HSGc : Hid (∀ W : World, Calls Tryd.prog 13 #[.string TL, .string ⟨#[48]⟩] W fun e w' => e = .returned (.string SG) ∧ W = w') := hSGc
  have HLD : Hid (ld + TL.size = wh.size + fr.size) := hld
  have hldle : ld ≤ 1048576 := by omega
  clear hTL hSG hdd hTs hds hldd hSGc hld Hdig
  have hd1 := hst0.d1
  have hd2 := hst0.d2
  have hf1 := hst0.f (w.heap.size + 1) 1 (by omega) (by omega)
  have hf2 := hst0.f (w.heap.size + 1) 2 (by omega) (by omega)
  have hN := hst0.size
  go_upto_if 65 with (first | (go_at_call 12; refine hTLc.mono ?_; rintro e w1 ⟨rfl, rfl⟩) | (go_at_call 13; refine (HSGc.out _).mono ?_; rintro e w1 ⟨rfl, rfl⟩))
  have hst3 := ((hst0.set1 TL).set2 ((wh.size : Int) - ((wh.size : Int) + fr.size - TL.size))).set1 SG
  obtain ⟨W, hW⟩ : ∃ W, W = ((wc.setCell ⟨w.heap.size + 1, 1, none⟩ (.string TL)).setCell ⟨w.heap.size + 1, 2, none⟩ (.int .i64 ((wh.size : Int) - ((wh.size : Int) + fr.size - TL.size)))).setCell ⟨w.heap.size + 1, 1, none⟩ (.string SG) := ⟨_, rfl⟩
  rw [← hW] at hst3
  rw [← hW]
  obtain ⟨pt, hpt⟩ : ∃ pt : Int, pt = (wh.size : Int) - ((wh.size : Int) + fr.size - TL.size) := ⟨_, rfl⟩
  rw [← hpt] at hst3
  have HPT : Hid (pt = (b : Int) - a - ld) := by show _ = _; rw [hpt]; have := HLD.out; omega
  have hpt1 : -1048576 ≤ pt := by have := HLD.out; omega
  have hpt2 : pt ≤ 1048576 := by omega
  clear hW hst0 hd1 hd2 hf1 hf2 hN hTLc HSGc hpt
  have hr0 := hst3.r0
  have hr1 := hst3.r1
  have hr2 := hst3.r2
  have hd0 := hst3.d0
  have hd1 := hst3.d1
  have hd2 := hst3.d2
  have hfr := fun o => hst3.f w.heap.size o (by omega) (by omega)
  have hfd := fun o => hst3.f (w.heap.size + 1) o (by omega) (by omega)
  have hN := hst3.size
  by_cases hemp : (Pl.st s.data.toList a c).2.1 = []
  · have hse : SG.toList.isEmpty = true := by rw [Lib.toList_data, HSG.out, hemp]; rfl
    have HEnd : Hid (ParseEnd s.data.toList a b c E (.returned (.agg #[.bool false, .string ⟨#[]⟩, .int .i64 0]))) := by show _ = _; rw [if_pos hemp]
    rw [hse]
    clear hemp hse
    go_wp2
    refine bodyPost_ret (v := .agg #[.bool false, .string ⟨#[]⟩, .int .i64 0]) (by simp [results, Tryd.results9, go_sem, hr0, hr1, hr2]) rfl ⟨HEnd.out, ?_⟩
    exact ((hst3.below.setCell (by simp) _).setCell (by simp) _).setCell (by simp) _
  · have hse : SG.toList.isEmpty = false := by
      rw [Lib.toList_data, HSG.out]
      cases h : (Pl.st s.data.toList a c).2.1 with
      | nil => exact absurd h hemp
      | cons _ _ => rfl
    have hSG : SG = ⟨(Pl.st s.data.toList a c).2.1.toArray⟩ := by rw [← HSG.out]
    have HEnd : Hid (∀ e, e = Ending.returned (.agg #[.bool (decide (a = 1)), .string SG, .int .i64 (pt + E)]) → ParseEnd s.data.toList a b c E e) := by
      intro e he
      show _ = _
      rw [if_neg hemp, he, ← hSG, ← HLd.out, HPT.out]
    rw [hse]
    clear hemp hse hSG HSG HLd HPT
    obtain ⟨PT, hPT⟩ : ∃ PT : ByteArray, PT = ⟨(Lib.trimPrefix ex.data.toList [43]).toArray⟩ := ⟨_, rfl⟩
    have hexs : ex.size ≤ 1048576 := by
      rcases Hex.out with ⟨_, h⟩ | ⟨_, _, h⟩
      · rw [h]; decide
      · omega
    have hPTs : PT.size ≤ 1048576 := by
      have h1 := Lib.trimPrefix_le ex.data.toList [43]
      have h2 : PT.size = (Lib.trimPrefix ex.data.toList [43]).length := by rw [hPT]; simp [ByteArray.size]
      rw [Pl.len_] at h1
      omega
    have hsum := exp_sum (l := s.data.toList) (c := c) (E := E) ex.data.toList (Hex.out.elim (fun h => Or.inl ⟨by rw [HL.out]; exact h.1, by rw [h.2]⟩) (fun h => Or.inr ⟨by rw [HL.out]; exact h.1, h.2.1⟩)) HE.out
    have hPTd : PT.data.toList = Lib.trimPrefix ex.data.toList [43] := by rw [hPT]
    rw [← hPTd] at hsum
    have hTP : Calls Tryd.prog 15 #[.string ex, .string ⟨#[43]⟩] W fun e w' => e = .returned (.string PT) ∧ W = w' := by
      rw [hPT]
      exact (Tryd.strings_TrimPrefix ex ⟨#[43]⟩ W).mono fun e w' h => ⟨h.1, h.2.symm⟩
    have hvar : W.var? Tryd.prog "strconv.ErrRange" = some #[.iface tp p] := by
      have hv := HR.out
      have hg : Tryd.prog.globalNamed "strconv.ErrRange" = some 2 := by kernel_rfl
      refine var?_below hst3.below hg ?_ hv
      unfold World.var? at hv
      simp only [hg, Option.bind_some] at hv
      cases h : w.heap[2]? with
      | none => rw [h] at hv; cases hv
      | some o => exact (Array.getElem?_eq_some_iff.1 h).1
    have hok : ∀ v, Lib.parseIntB 64 PT.data.toList = .ok v → Calls Tryd.prog 14 #[.string PT, .int .i64 10, .int .i64 64] W fun e w' => e = .returned (.tuple #[.int .i64 v, .nilIface]) ∧ Below W.heap.size W w' := fun v hv =>
      (Tryd.strconv_ParseInt_10_at64_ok PT (by omega) v hv W).mono fun e w' h => ⟨h.1, h.2.elim (fun e => by rw [e]; exact Below.refl _ _) (fun ⟨t, e⟩ => by rw [e]; exact Lib.bytesWorld_below _ _ _)⟩
    have hrg : Lib.parseIntB 64 PT.data.toList = .range → Calls Tryd.prog 14 #[.string PT, .int .i64 10, .int .i64 64] W fun e w' => (∃ N, e = .returned (.tuple #[.int .i64 (Lib.intSat 64 PT.data.toList), .iface 58 (.pointer (some ⟨N, 0, none⟩))])) ∧ Below W.heap.size W w' := fun hv =>
      (Tryd.strconv_ParseInt_10_at64_range_var PT (by omega) hv tp p W hvar).mono fun e w' ⟨N, h1, _, _, h2⟩ => ⟨⟨N, h1⟩, h2⟩
    have hHP : ∀ W', Calls Tryd.prog 16 #[.string ex, .string ⟨#[45]⟩] W' fun e w' => e = .returned (.bool (Lib.hasPrefix ex.data.toList [45])) ∧ W' = w' := fun W' =>
      (Tryd.strings_HasPrefix ex ⟨#[45]⟩ W').mono fun e w' h => ⟨h.1, h.2.symm⟩
    have HHP : Hid (∀ W', Calls Tryd.prog 16 #[.string ex, .string ⟨#[45]⟩] W' fun e w' => e = .returned (.bool (Lib.hasPrefix ex.data.toList [45])) ∧ W' = w') := hHP
    clear hHP hPT hPTd hvar hexs hr0 hr1 hr2 hd0 hd1 hd2 hfr hfd hN
    rcases hsum with ⟨h1, h2, h3⟩ | ⟨h1, h2⟩
    · have hPI := hok E h1
      clear h1 hok hrg
      go_wp2_with (first | (go_at_call 15; refine hTP.mono ?_; rintro e w1 ⟨rfl, rfl⟩) | (go_at_call 14; refine hPI.mono ?_; rintro e w2 ⟨rfl, hb2⟩; refine Hid.out ?_))
      refine Lib.hid ?_
      have hst4 := hst3.on hb2
      have hr0 := hst4.r0
      have hr1 := hst4.r1
      have hr2 := hst4.r2
      have hd0 := hst4.d0
      have hd1 := hst4.d1
      have hd2 := hst4.d2
      have hfr := fun o => hst4.f w.heap.size o (by omega) (by omega)
      have hfd := fun o => hst4.f (w.heap.size + 1) o (by omega) (by omega)
      have hN := hst4.size
      clear hst3 hb2 hPI hTP
      go_wp2
      refine bodyPost_ret (v := .agg #[.bool (decide (a = 1)), .string SG, .int .i64 (pt + E)]) (by simp [results, Tryd.results9, go_sem, hr0, hr1, hr2]) rfl ⟨HEnd.out _ rfl, ?_⟩
      exact (((hst4.below.setCell (by simp) _).setCell (by simp) _).setCell (by simp) _).setCell (by simp) _
    · rcases h2 with ⟨hpre, hE⟩ | ⟨hpre, hE⟩
      · rw [hpre] at HHP
        have HEE : Hid (E = -4611686018427387904) := hE
        clear hE hpre
        rcases h1 with h1 | ⟨v, h1, hv | hv⟩
        · have hPI := hrg h1
          clear h1 hok hrg
          go_wp2_with (first | (go_at_call 15; refine hTP.mono ?_; rintro e w1 ⟨rfl, rfl⟩) | (go_at_call 14; refine hPI.mono ?_; rintro e w2 ⟨⟨N, rfl⟩, hb2⟩; refine Hid.out ?_))
          refine Lib.hid ?_
          have hst4 := hst3.on hb2
          have hr0 := hst4.r0
          have hr1 := hst4.r1
          have hr2 := hst4.r2
          have hd0 := hst4.d0
          have hd1 := hst4.d1
          have hd2 := hst4.d2
          have hfr := fun o => hst4.f w.heap.size o (by omega) (by omega)
          have hfd := fun o => hst4.f (w.heap.size + 1) o (by omega) (by omega)
          have hN := hst4.size
          clear hst3 hb2 hTP
          go_wp2_with (go_at_call 16; refine (HHP.out _).mono ?_; rintro e w3 ⟨rfl, rfl⟩)
          refine bodyPost_ret (v := .agg #[.bool (decide (a = 1)), .string SG, .int .i64 (pt + (-4611686018427387904))]) (by simp [results, Tryd.results9, go_sem, hr0, hr1, hr2]) rfl ⟨HEnd.out _ (by rw [HEE.out]), ?_⟩
          exact (((hst4.below.setCell (by simp) _).setCell (by simp) _).setCell (by simp) _).setCell (by simp) _
        · have hPI := hok v h1
          clear h1 hok hrg
          go_wp2_with (first | (go_at_call 15; refine hTP.mono ?_; rintro e w1 ⟨rfl, rfl⟩) | (go_at_call 14; refine hPI.mono ?_; rintro e w2 ⟨rfl, hb2⟩; refine Hid.out ?_))
          refine Lib.hid ?_
          have hst4 := hst3.on hb2
          have hr0 := hst4.r0
          have hr1 := hst4.r1
          have hr2 := hst4.r2
          have hd0 := hst4.d0
          have hd1 := hst4.d1
          have hd2 := hst4.d2
          have hfr := fun o => hst4.f w.heap.size o (by omega) (by omega)
          have hfd := fun o => hst4.f (w.heap.size + 1) o (by omega) (by omega)
          have hN := hst4.size
          clear hst3 hb2 hTP
          go_wp2_with (go_at_call 16; refine (HHP.out _).mono ?_; rintro e w3 ⟨rfl, rfl⟩)
          refine bodyPost_ret (v := .agg #[.bool (decide (a = 1)), .string SG, .int .i64 (pt + (-4611686018427387904))]) (by simp [results, Tryd.results9, go_sem, hr0, hr1, hr2]) rfl ⟨HEnd.out _ (by rw [HEE.out]), ?_⟩
          exact (((hst4.below.setCell (by simp) _).setCell (by simp) _).setCell (by simp) _).setCell (by simp) _
        · have hPI := hok v h1
          have hv' : ¬ 4611686018427387904 < v := by omega
          clear h1 hok hrg
          go_wp2_with (first | (go_at_call 15; refine hTP.mono ?_; rintro e w1 ⟨rfl, rfl⟩) | (go_at_call 14; refine hPI.mono ?_; rintro e w2 ⟨rfl, hb2⟩; refine Hid.out ?_))
          refine Lib.hid ?_
          have hst4 := hst3.on hb2
          have hr0 := hst4.r0
          have hr1 := hst4.r1
          have hr2 := hst4.r2
          have hd0 := hst4.d0
          have hd1 := hst4.d1
          have hd2 := hst4.d2
          have hfr := fun o => hst4.f w.heap.size o (by omega) (by omega)
          have hfd := fun o => hst4.f (w.heap.size + 1) o (by omega) (by omega)
          have hN := hst4.size
          clear hst3 hb2 hTP
          go_wp2_with (go_at_call 16; refine (HHP.out _).mono ?_; rintro e w3 ⟨rfl, rfl⟩)
          refine bodyPost_ret (v := .agg #[.bool (decide (a = 1)), .string SG, .int .i64 (pt + (-4611686018427387904))]) (by simp [results, Tryd.results9, go_sem, hr0, hr1, hr2]) rfl ⟨HEnd.out _ (by rw [HEE.out]), ?_⟩
          exact (((hst4.below.setCell (by simp) _).setCell (by simp) _).setCell (by simp) _).setCell (by simp) _
      · rw [hpre] at HHP
        have HEE : Hid (E = 4611686018427387904) := hE
        clear hE hpre
        rcases h1 with h1 | ⟨v, h1, hv | hv⟩
        · have hPI := hrg h1
          clear h1 hok hrg
          go_wp2_with (first | (go_at_call 15; refine hTP.mono ?_; rintro e w1 ⟨rfl, rfl⟩) | (go_at_call 14; refine hPI.mono ?_; rintro e w2 ⟨⟨N, rfl⟩, hb2⟩; refine Hid.out ?_))
          refine Lib.hid ?_
          have hst4 := hst3.on hb2
          have hr0 := hst4.r0
          have hr1 := hst4.r1
          have hr2 := hst4.r2
          have hd0 := hst4.d0
          have hd1 := hst4.d1
          have hd2 := hst4.d2
          have hfr := fun o => hst4.f w.heap.size o (by omega) (by omega)
          have hfd := fun o => hst4.f (w.heap.size + 1) o (by omega) (by omega)
          have hN := hst4.size
          clear hst3 hb2 hTP
          go_wp2_with (go_at_call 16; refine (HHP.out _).mono ?_; rintro e w3 ⟨rfl, rfl⟩)
          refine bodyPost_ret (v := .agg #[.bool (decide (a = 1)), .string SG, .int .i64 (pt + 4611686018427387904)]) (by simp [results, Tryd.results9, go_sem, hr0, hr1, hr2]) rfl ⟨HEnd.out _ (by rw [HEE.out]), ?_⟩
          exact (((hst4.below.setCell (by simp) _).setCell (by simp) _).setCell (by simp) _).setCell (by simp) _
        · have hPI := hok v h1
          clear h1 hok hrg
          go_wp2_with (first | (go_at_call 15; refine hTP.mono ?_; rintro e w1 ⟨rfl, rfl⟩) | (go_at_call 14; refine hPI.mono ?_; rintro e w2 ⟨rfl, hb2⟩; refine Hid.out ?_))
          refine Lib.hid ?_
          have hst4 := hst3.on hb2
          have hr0 := hst4.r0
          have hr1 := hst4.r1
          have hr2 := hst4.r2
          have hd0 := hst4.d0
          have hd1 := hst4.d1
          have hd2 := hst4.d2
          have hfr := fun o => hst4.f w.heap.size o (by omega) (by omega)
          have hfd := fun o => hst4.f (w.heap.size + 1) o (by omega) (by omega)
          have hN := hst4.size
          clear hst3 hb2 hTP
          go_wp2_with (go_at_call 16; refine (HHP.out _).mono ?_; rintro e w3 ⟨rfl, rfl⟩)
          refine bodyPost_ret (v := .agg #[.bool (decide (a = 1)), .string SG, .int .i64 (pt + 4611686018427387904)]) (by simp [results, Tryd.results9, go_sem, hr0, hr1, hr2]) rfl ⟨HEnd.out _ (by rw [HEE.out]), ?_⟩
          exact (((hst4.below.setCell (by simp) _).setCell (by simp) _).setCell (by simp) _).setCell (by simp) _
        · have hPI := hok v h1
          have hv' : ¬ 4611686018427387904 < v := by omega
          clear h1 hok hrg
          go_wp2_with (first | (go_at_call 15; refine hTP.mono ?_; rintro e w1 ⟨rfl, rfl⟩) | (go_at_call 14; refine hPI.mono ?_; rintro e w2 ⟨rfl, hb2⟩; refine Hid.out ?_))
          refine Lib.hid ?_
          have hst4 := hst3.on hb2
          have hr0 := hst4.r0
          have hr1 := hst4.r1
          have hr2 := hst4.r2
          have hd0 := hst4.d0
          have hd1 := hst4.d1
          have hd2 := hst4.d2
          have hfr := fun o => hst4.f w.heap.size o (by omega) (by omega)
          have hfd := fun o => hst4.f (w.heap.size + 1) o (by omega) (by omega)
          have hN := hst4.size
          clear hst3 hb2 hTP
          go_wp2_with (go_at_call 16; refine (HHP.out _).mono ?_; rintro e w3 ⟨rfl, rfl⟩)
          refine bodyPost_ret (v := .agg #[.bool (decide (a = 1)), .string SG, .int .i64 (pt + 4611686018427387904)]) (by simp [results, Tryd.results9, go_sem, hr0, hr1, hr2]) rfl ⟨HEnd.out _ (by rw [HEE.out]), ?_⟩
          exact (((hst4.below.setCell (by simp) _).setCell (by simp) _).setCell (by simp) _).setCell (by simp) _
end Go.Proofs.Qxb6604296aDoor
