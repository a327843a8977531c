/-
  seat b6604462aD: appends to a full row that may bear a mark ([]byte of a constant), and the nil slice appended; zzAppendLineB1 from such a row.
-/
import Derived.Test.Qxb6604462aDoorApp
import Derived.Lib.SlBytesConst
namespace Go.Proofs.Qxb6604462aDoor
open Go Go.RowKit

section
variable {P : Program} (w : World)

theorem own_grown (base e : Nat) (z : Value) (hzs : z.cells.size = 1) (n old : Nat) (all : List Value) (hl : all.length = n) (h63 : n ≤ maxLen) (hbase : base ≤ w.heap.size) :
    (w.drew.alloc (.cells (all.toArray ++ Builtin.zeroCells z.cells (grownCap w n old e - n)) e)).ownsRow base e 1 (.slice (some ⟨w.heap.size, 0, none⟩) n (grownCap w n old e)) n all ∧
    w.grownBy (w.drew.alloc (.cells (all.toArray ++ Builtin.zeroCells z.cells (grownCap w n old e - n)) e)) none := by
  have hge := grownCap_ge w n old e
  have hcm : grownCap w n old e ≤ maxLen := grownCap_le_maxLen w n old e h63
  refine ⟨⟨by omega, .inr ⟨w.heap.size, _, _, rfl, hbase, heap_alloc_new w.drew _, hge, hcm, ?_, ?_⟩⟩, ⟨rfl, rfl, rfl, by simp, fun k hk _ => heap_alloc_old w.drew _ hk⟩⟩
  · simp only [Array.size_append, List.size_toArray, size_zeroCells, hzs, hl]
    omega
  · simp only [Array.toList_append, Nat.mul_one]
    rw [← hl]
    exact List.take_left

/-- A full row, whatever mark it bears, appended to: it grows. -/
theorem wpList_append_full {ops : Array Oper} {rest : List Oper} {o : Oper} {a : Act} {Q : Exit → Act → World → Prop} (hgd : o.guard = none) (s x : Operand) (t : TypeId)
    (ho : o.op = .call { callee := .builtin .append, args := #[s, x], argTypes := #[t, t] })
    (base : Nat) (e : TypeId) (i : TypeInfo) (z : Value) (bytes : Nat) (ht : P.underlying t = some (.slice e)) (hi : P.info? e = some i) (hz : i.zero = some z)
    (hsize : i.size = 1) (hby : i.bytes = bytes) (hzs : z.cells.size = 1)
    (b : Addr) (n : Nat) (xs : List Value) (hs : a.eval s = .slice (some b) n n) (hxl : xs.length = n) (holds : ∀ j u, xs[j]? = some u → w.cell? (b.add j) = some u)
    (ad : Addr) (m c : Nat) (news : List Value) (hx : a.eval x = .slice (some ad) m c) (hl : news.length = m) (hnews : ∀ j u, news[j]? = some u → w.cell? (ad.add j) = some u) (hm : 0 < m)
    (h63 : n + m ≤ 9000000000000) (hbytes : (n + m) * bytes ≤ 140737488355328) (hbase : base ≤ w.heap.size)
    (h : ∀ v' w', w'.ownsRow base e 1 v' (n + m) (xs ++ news) → w.grownBy w' none → Fresh w (.slice none 0 0) v' → wpList P ops Q rest (a.put o.dst v') w') : wpList P ops Q (o :: rest) a w := by
  refine wpList_plain hgd fun K hK => ?_
  have hr := run_append_grow (P := P) w t o.type e i z ht hi hz b n n xs (by rw [hsize]; omega) holds ad m c news (by rw [hsize]; omega) hnews (by omega) (by omega) (growslice_fits (by omega) (by rw [hby]; exact hbytes))
  have hg := own_grown w base e z hzs (n + m) n (xs ++ news) (by rw [List.length_append]; omega) (by unfold maxLen; omega) hbase
  unfold Oper.wp execOp
  simp only [ho, resolve, invoke, builtin, Sem.run_bind, Sem.run_pure, Result.andThen_ok, List.map_toArray, List.map_cons, List.map_nil, hs, hx, hr]
  have e1 : (xs.toArray ++ news.toArray ++ Builtin.zeroCells z.cells (grownCap w (n + m) n e - (n + m))) = ((xs ++ news).toArray ++ Builtin.zeroCells z.cells (grownCap w (n + m) n e - (n + m))) := by simp
  rw [e1]
  exact hK _ _ (h _ _ hg.1 hg.2 (Or.inr (fun k hk => by simp [Value.ownBlock] at hk; omega)))

theorem wpList_append_str_full {ops : Array Oper} {rest : List Oper} {o : Oper} {a : Act} {Q : Exit → Act → World → Prop} (hgd : o.guard = none) (sl x : Operand) (t u : TypeId)
    (ho : o.op = .call { callee := .builtin .append, args := #[sl, x], argTypes := #[t, u] })
    (base : Nat) (e : TypeId) (i : TypeInfo) (ht : P.underlying t = some (.slice e)) (hu : P.underlying u = some .string) (hi : P.info? e = some i) (hz : i.zero = some (.int .u8 0))
    (hsize : i.size = 1) (hby : i.bytes = 1)
    (b : Addr) (n : Nat) (xs : List Value) (hs : a.eval sl = .slice (some b) n n) (hxl : xs.length = n) (holds : ∀ j u, xs[j]? = some u → w.cell? (b.add j) = some u) (s : ByteArray) (hx : a.eval x = .string s) (hm : 0 < s.size)
    (h63 : n + s.size ≤ 9000000000000) (hbase : base ≤ w.heap.size)
    (h : ∀ v' w', w'.ownsRow base e 1 v' (n + s.size) (xs ++ Lib.strCells s) → w.grownBy w' none → Fresh w (.slice none 0 0) v' → wpList P ops Q rest (a.put o.dst v') w') : wpList P ops Q (o :: rest) a w := by
  refine wpList_plain hgd fun K hK => ?_
  have hr := Lib.run_append_grow_string (P := P) w t u o.type e i (.int .u8 0) ht hu hi hz b n n xs (by rw [hsize]; omega) holds s (by omega) (by omega) (by rw [hby]; exact growslice_fits (by omega) (by omega))
  have hg := own_grown w base e (.int .u8 0) rfl (n + s.size) n (xs ++ Lib.strCells s) (by rw [List.length_append, Lib.strCells_length]; omega) (by unfold maxLen; omega) hbase
  unfold Oper.wp execOp
  simp only [ho, resolve, invoke, builtin, Sem.run_bind, Sem.run_pure, Result.andThen_ok, List.map_toArray, List.map_cons, List.map_nil, hs, hx, hr]
  have e1 : (xs.toArray ++ (Lib.strCells s).toArray ++ Builtin.zeroCells (Value.int .u8 0).cells (grownCap w (n + s.size) n e - (n + s.size))) = ((xs ++ Lib.strCells s).toArray ++ Builtin.zeroCells (Value.int .u8 0).cells (grownCap w (n + s.size) n e - (n + s.size))) := by simp
  rw [e1]
  exact hK _ _ (h _ _ hg.1 hg.2 (Or.inr (fun k hk => by simp [Value.ownBlock] at hk; omega)))
end

theorem Ap.first {base n m : Nat} {v1 : Value} {w W W2 : World} {xs ys : List UInt8} (hW : Keep (fun _ => False) w W) {news : List Value} (hn : n = xs.length) (hm : m = ys.length) (hne : news = Lib.byteCells ys) (h1 : W2.ownsRow base 5 1 v1 (n + m) (Lib.byteCells xs ++ news)) (hg : W.grownBy W2 none) (hf : Fresh W (.slice none 0 0) v1) : Ap base (.slice none 0 0) w (xs ++ ys) v1 W2 := by
  refine ⟨?_, ?_, ?_⟩
  · subst hn hm hne
    rw [List.length_append]
    have e : Lib.byteCells (xs ++ ys) = Lib.byteCells xs ++ Lib.byteCells ys := by simp [Lib.byteCells]
    rw [e]
    exact h1
  · exact ((hW.mono (fun _ h => h.elim)).trans (keep_grown (v := .slice none 0 0) hg))
  · rcases hf with hf | hf
    · exact Or.inl hf
    · exact Or.inr (fun k hk => Nat.le_trans hW.size (hf k hk))

/-- .. from a full row that is not ours to write. -/
def LinePostF (base : Nat) (w : World) (xs : List UInt8) (e : Ending) (w' : World) : Prop := ∃ v', e = .returned v' ∧ Ap base (.slice none 0 0) w xs v' w'

set_option maxRecDepth 100000 in
set_option maxHeartbeats 4000000 in
theorem appendLineF (base : Nat) (bb : Addr) (xs : List UInt8) (P Q : ByteArray) (w : World) (h : ∀ j u, (Lib.byteCells xs)[j]? = some u → w.cell? (bb.add j) = some u) (hx : xs.length ≤ 4000000000) (hP : P.size ≤ 1048576) (hQ : Q.size ≤ 1048600) (hb : base ≤ w.heap.size) :
    Calls Tryd.prog 26 #[.slice (some bb) xs.length xs.length, .string P, .string Q] w fun e w' => LinePostF base w (xs ++ lineB (P, Q)) e w' := by
  obtain ⟨i0, hi, hz0, hz1, hz2⟩ := infoByte
  obtain ⟨C0, hC0⟩ : ∃ C, C = xs := ⟨_, rfl⟩
  have HC0 := Lib.hid hC0
  have HL0 : Hid (C0.length = xs.length) := Lib.hid (by rw [hC0])
  have HCl : Hid ((Lib.byteCells C0).length = xs.length) := Lib.hid (by rw [Lib.byteCells_length, hC0])
  have HHold : Hid (∀ W : World, Keep (fun _ => False) w W → ∀ j u, (Lib.byteCells C0)[j]? = some u → W.cell? (bb.add j) = some u) := Lib.hid (fun W hW j u hj => hW.cellA (fun h => h) (h j u (by rw [← hC0]; exact hj)))
  clear hC0 h
  by_cases hq : Q = ⟨#[]⟩
  · have hline : lineB (P, Q) = [34] ++ P.data.toList ++ [34] := by
      unfold lineB
      rw [if_pos (by rw [hq])]
      simp
    rw [hline]
    clear hline
    subst hq
    go_enter Tryd.func26, Tryd.ntmps26
    go_wp2_with (at_builtin; refine wpList_append_full _ rfl _ _ 51 rfl base 5 i0 (.int .u8 0) 1 Tryd.underlying51 hi hz0 hz1 hz2 rfl bb xs.length (Lib.byteCells C0) rfl HCl.out (HHold.out _ ((Keep.refl _ w).alloc _)) ⟨w.heap.size, 0, none⟩ 1 1 [Value.int .u8 34] rfl rfl (byte_new _ _ _) (by omega) (by omega) (by omega) (by simp; omega) ?_)
    intro v1 w1 g1 g2 g3
    obtain ⟨C1, hC1⟩ : ∃ C, C = C0 ++ [34] := ⟨_, rfl⟩
    have hA1 := Ap.first (base := base) (W := w.alloc (.cells #[.int .u8 34] 5)) ((Keep.refl _ w).alloc _) (xs := C0) HL0.out.symm (ys := [34]) rfl rfl g1 g2 g3
    rw [← hC1] at hA1
    have HA1 := Lib.hid hA1
    have HL1 : Hid (C1.length = xs.length + 1) := Lib.hid (by rw [hC1, List.length_append, HL0.out]; rfl)
    have HC1 := Lib.hid hC1
    obtain ⟨p1, c1, hv⟩ := slice_of_own g1
    subst hv
    have HR1 : Hid (w1.ownsRow base 5 1 (.slice p1 (xs.length + 1) c1) (xs.length + 1) (Lib.byteCells C1)) := Lib.hid (by have := hA1.row; rw [HL1.out] at this; exact this)
    have hs1 := hA1.kp.size
    clear g1 g2 g3 hA1 hC1 HHold HCl
    go_wp2_with (at_builtin; refine wpList_append_str_fresh _ rfl _ _ 51 9 rfl base 5 i0 Tryd.underlying51 Tryd.underlying9 hi hz0 hz1 hz2 (.slice p1 (xs.length + 1) c1) (xs.length + 1) (Lib.byteCells (C1)) rfl HR1.out P rfl (by unfold maxLen; omega) (by omega) (by omega) ?_)
    intro v2 w2 g1 g2 g3
    obtain ⟨C2, hC2⟩ : ∃ C, C = C1 ++ P.data.toList := ⟨_, rfl⟩
    have hA2 := HA1.out.step (Keep.refl _ _) (ys := P.data.toList) (Lib.size_eq P) rfl (by rw [HL1.out]; exact g1) g2 g3
    rw [← hC2] at hA2
    have HA2 := Lib.hid hA2
    have HL2 : Hid (C2.length = xs.length + 1 + P.size) := Lib.hid (by rw [hC2, List.length_append, HL1.out, ← Lib.size_eq])
    have HC2 := Lib.hid hC2
    obtain ⟨p2, c2, hv⟩ := slice_of_own g1
    subst hv
    have HR2 : Hid (w2.ownsRow base 5 1 (.slice p2 (xs.length + 1 + P.size) c2) (xs.length + 1 + P.size) (Lib.byteCells C2)) := Lib.hid (by have := hA2.row; rw [HL2.out] at this; exact this)
    have hs2 := hA2.kp.size
    clear g1 g2 g3 hA2 hC2 HA1 HR1
    go_wp2_with (at_builtin; refine wpList_append_fresh _ rfl _ _ 51 rfl base 5 i0 (.int .u8 0) 1 1 Tryd.underlying51 hi hz0 hz1 hz2 rfl (by decide) (.slice p2 (xs.length + 1 + P.size) c2) (xs.length + 1 + P.size) (Lib.byteCells (C2)) rfl (HR2.out.alloc _) ⟨w2.heap.size, 0, none⟩ 1 1 [Value.int .u8 34] rfl rfl (byte_new _ _ _) (by intro u hu; simp at hu; subst hu; rfl) (by unfold maxLen; omega) (by omega) (by simp; omega) ?_)
    intro v3 w3 g1 g2 g3
    obtain ⟨C3, hC3⟩ : ∃ C, C = C2 ++ [34] := ⟨_, rfl⟩
    have hA3 := HA2.out.step ((Keep.refl _ _).alloc _) (ys := [34]) rfl rfl (by rw [HL2.out]; exact g1) g2 g3
    rw [← hC3] at hA3
    have HA3 := Lib.hid hA3
    have HL3 : Hid (C3.length = xs.length + 1 + P.size + 1) := Lib.hid (by rw [hC3, List.length_append, HL2.out]; rfl)
    have HC3 := Lib.hid hC3
    obtain ⟨p3, c3, hv⟩ := slice_of_own g1
    subst hv
    have HR3 : Hid (w3.ownsRow base 5 1 (.slice p3 (xs.length + 1 + P.size + 1) c3) (xs.length + 1 + P.size + 1) (Lib.byteCells C3)) := Lib.hid (by have := hA3.row; rw [HL3.out] at this; exact this)
    have hs3 := hA3.kp.size
    clear g1 g2 g3 hA3 hC3 HA2 HR2
    go_wp2
    go_ret
    refine ⟨_, rfl, ?_⟩
    have hfin := HA3.out
    rw [HC3.out, HC2.out, HC1.out, HC0.out] at hfin
    simpa using hfin
  · have hline : lineB (P, Q) = Q.data.toList ++ [32] ++ [34] ++ P.data.toList ++ [34] := by
      unfold lineB
      rw [if_neg (fun he => hq (str_eq (by simpa using he)))]
      simp
    have hb1 := str_no hq
    have hq0 : 0 < Q.size := by
      rcases Nat.eq_zero_or_pos Q.size with h0 | h0
      · have hnil : Q.data.toList = [] := List.eq_nil_of_length_eq_zero (by rw [← Lib.size_eq]; exact h0)
        exact absurd (str_eq (hnil.trans rfl)) hq
      · exact h0
    have hb2 : Q.toList.isEmpty = false := by
      rw [ByteArray.toList_eq]
      cases hqq : Q.data.toList with
      | nil => exact absurd (str_eq (by simpa using hqq)) hq
      | cons a l => rfl
    rw [hline]
    clear hline hq
    go_enter Tryd.func26, Tryd.ntmps26
    go_wp2_with (at_builtin; refine wpList_append_str_full _ rfl _ _ 51 9 rfl base 5 i0 Tryd.underlying51 Tryd.underlying9 hi hz0 hz1 hz2 bb xs.length (Lib.byteCells C0) rfl HCl.out (HHold.out _ (Keep.refl _ w)) Q rfl (by omega) (by omega) (by omega) ?_)
    intro v1 w1 g1 g2 g3
    obtain ⟨C1, hC1⟩ : ∃ C, C = C0 ++ Q.data.toList := ⟨_, rfl⟩
    have hA1 := Ap.first (base := base) (W := w) (Keep.refl _ w) (xs := C0) HL0.out.symm (ys := Q.data.toList) (Lib.size_eq Q) rfl g1 g2 g3
    rw [← hC1] at hA1
    have HA1 := Lib.hid hA1
    have HL1 : Hid (C1.length = xs.length + Q.size) := Lib.hid (by rw [hC1, List.length_append, HL0.out, ← Lib.size_eq])
    have HC1 := Lib.hid hC1
    obtain ⟨p1, c1, hv⟩ := slice_of_own g1
    subst hv
    have HR1 : Hid (w1.ownsRow base 5 1 (.slice p1 (xs.length + Q.size) c1) (xs.length + Q.size) (Lib.byteCells C1)) := Lib.hid (by have := hA1.row; rw [HL1.out] at this; exact this)
    have hs1 := hA1.kp.size
    clear g1 g2 g3 hA1 hC1 HHold HCl
    go_wp2_with (at_builtin; refine wpList_append_fresh _ rfl _ _ 51 rfl base 5 i0 (.int .u8 0) 1 1 Tryd.underlying51 hi hz0 hz1 hz2 rfl (by decide) (.slice p1 (xs.length + Q.size) c1) (xs.length + Q.size) (Lib.byteCells (C1)) rfl (HR1.out.alloc _) ⟨w1.heap.size, 0, none⟩ 1 1 [Value.int .u8 32] rfl rfl (byte_new _ _ _) (by intro u hu; simp at hu; subst hu; rfl) (by unfold maxLen; omega) (by omega) (by simp; omega) ?_)
    intro v2 w2 g1 g2 g3
    obtain ⟨C2, hC2⟩ : ∃ C, C = C1 ++ [32] := ⟨_, rfl⟩
    have hA2 := HA1.out.step ((Keep.refl _ _).alloc _) (ys := [32]) rfl rfl (by rw [HL1.out]; exact g1) g2 g3
    rw [← hC2] at hA2
    have HA2 := Lib.hid hA2
    have HL2 : Hid (C2.length = xs.length + Q.size + 1) := Lib.hid (by rw [hC2, List.length_append, HL1.out]; rfl)
    have HC2 := Lib.hid hC2
    obtain ⟨p2, c2, hv⟩ := slice_of_own g1
    subst hv
    have HR2 : Hid (w2.ownsRow base 5 1 (.slice p2 (xs.length + Q.size + 1) c2) (xs.length + Q.size + 1) (Lib.byteCells C2)) := Lib.hid (by have := hA2.row; rw [HL2.out] at this; exact this)
    have hs2 := hA2.kp.size
    clear g1 g2 g3 hA2 hC2 HA1 HR1
    go_wp2_with (at_builtin; refine wpList_append_fresh _ rfl _ _ 51 rfl base 5 i0 (.int .u8 0) 1 1 Tryd.underlying51 hi hz0 hz1 hz2 rfl (by decide) (.slice p2 (xs.length + Q.size + 1) c2) (xs.length + Q.size + 1) (Lib.byteCells (C2)) rfl (HR2.out.alloc _) ⟨w2.heap.size, 0, none⟩ 1 1 [Value.int .u8 34] rfl rfl (byte_new _ _ _) (by intro u hu; simp at hu; subst hu; rfl) (by unfold maxLen; omega) (by omega) (by simp; omega) ?_)
    intro v3 w3 g1 g2 g3
    obtain ⟨C3, hC3⟩ : ∃ C, C = C2 ++ [34] := ⟨_, rfl⟩
    have hA3 := HA2.out.step ((Keep.refl _ _).alloc _) (ys := [34]) rfl rfl (by rw [HL2.out]; exact g1) g2 g3
    rw [← hC3] at hA3
    have HA3 := Lib.hid hA3
    have HL3 : Hid (C3.length = xs.length + Q.size + 1 + 1) := Lib.hid (by rw [hC3, List.length_append, HL2.out]; rfl)
    have HC3 := Lib.hid hC3
    obtain ⟨p3, c3, hv⟩ := slice_of_own g1
    subst hv
    have HR3 : Hid (w3.ownsRow base 5 1 (.slice p3 (xs.length + Q.size + 1 + 1) c3) (xs.length + Q.size + 1 + 1) (Lib.byteCells C3)) := Lib.hid (by have := hA3.row; rw [HL3.out] at this; exact this)
    have hs3 := hA3.kp.size
    clear g1 g2 g3 hA3 hC3 HA2 HR2
    go_wp2_with (at_builtin; refine wpList_append_str_fresh _ rfl _ _ 51 9 rfl base 5 i0 Tryd.underlying51 Tryd.underlying9 hi hz0 hz1 hz2 (.slice p3 (xs.length + Q.size + 1 + 1) c3) (xs.length + Q.size + 1 + 1) (Lib.byteCells (C3)) rfl HR3.out P rfl (by unfold maxLen; omega) (by omega) (by omega) ?_)
    intro v4 w4 g1 g2 g3
    obtain ⟨C4, hC4⟩ : ∃ C, C = C3 ++ P.data.toList := ⟨_, rfl⟩
    have hA4 := HA3.out.step (Keep.refl _ _) (ys := P.data.toList) (Lib.size_eq P) rfl (by rw [HL3.out]; exact g1) g2 g3
    rw [← hC4] at hA4
    have HA4 := Lib.hid hA4
    have HL4 : Hid (C4.length = xs.length + Q.size + 1 + 1 + P.size) := Lib.hid (by rw [hC4, List.length_append, HL3.out, ← Lib.size_eq])
    have HC4 := Lib.hid hC4
    obtain ⟨p4, c4, hv⟩ := slice_of_own g1
    subst hv
    have HR4 : Hid (w4.ownsRow base 5 1 (.slice p4 (xs.length + Q.size + 1 + 1 + P.size) c4) (xs.length + Q.size + 1 + 1 + P.size) (Lib.byteCells C4)) := Lib.hid (by have := hA4.row; rw [HL4.out] at this; exact this)
    have hs4 := hA4.kp.size
    clear g1 g2 g3 hA4 hC4 HA3 HR3
    go_wp2_with (at_builtin; refine wpList_append_fresh _ rfl _ _ 51 rfl base 5 i0 (.int .u8 0) 1 1 Tryd.underlying51 hi hz0 hz1 hz2 rfl (by decide) (.slice p4 (xs.length + Q.size + 1 + 1 + P.size) c4) (xs.length + Q.size + 1 + 1 + P.size) (Lib.byteCells (C4)) rfl (HR4.out.alloc _) ⟨w4.heap.size, 0, none⟩ 1 1 [Value.int .u8 34] rfl rfl (byte_new _ _ _) (by intro u hu; simp at hu; subst hu; rfl) (by unfold maxLen; omega) (by omega) (by simp; omega) ?_)
    intro v5 w5 g1 g2 g3
    obtain ⟨C5, hC5⟩ : ∃ C, C = C4 ++ [34] := ⟨_, rfl⟩
    have hA5 := HA4.out.step ((Keep.refl _ _).alloc _) (ys := [34]) rfl rfl (by rw [HL4.out]; exact g1) g2 g3
    rw [← hC5] at hA5
    have HA5 := Lib.hid hA5
    have HL5 : Hid (C5.length = xs.length + Q.size + 1 + 1 + P.size + 1) := Lib.hid (by rw [hC5, List.length_append, HL4.out]; rfl)
    have HC5 := Lib.hid hC5
    obtain ⟨p5, c5, hv⟩ := slice_of_own g1
    subst hv
    have HR5 : Hid (w5.ownsRow base 5 1 (.slice p5 (xs.length + Q.size + 1 + 1 + P.size + 1) c5) (xs.length + Q.size + 1 + 1 + P.size + 1) (Lib.byteCells C5)) := Lib.hid (by have := hA5.row; rw [HL5.out] at this; exact this)
    have hs5 := hA5.kp.size
    clear g1 g2 g3 hA5 hC5 HA4 HR4
    go_wp2
    go_ret
    refine ⟨_, rfl, ?_⟩
    have hfin := HA5.out
    rw [HC5.out, HC4.out, HC3.out, HC2.out, HC1.out, HC0.out] at hfin
    simpa using hfin
end Go.Proofs.Qxb6604462aDoor
