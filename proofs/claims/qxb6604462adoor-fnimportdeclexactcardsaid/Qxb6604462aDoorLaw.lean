/-
  seat b6604462aD: the law FnImportDeclExact, walked.
-/
import Derived.Test.Qxb6604462aDoorModel
namespace Go.Proofs.Qxb6604462aDoor
open Go Go.RowKit

/-- The imports as the scope keeps them. -/
def specs (es : List Ent) (nms : List ByteArray) : List Ent := List.zipWith (fun e nm => (e.1, aliasOf nm e.2)) es nms
theorem specs_length {es : List Ent} {nms : List ByteArray} (h : nms.length ≤ es.length) : (specs es nms).length = nms.length := by unfold specs; rw [List.length_zipWith]; omega
theorem specs_get {es : List Ent} {nms : List ByteArray} {i : Nat} (h1 : i < es.length) (h2 : i < nms.length) (h : i < (specs es nms).length) : (specs es nms)[i] = (es[i].1, aliasOf nms[i] es[i].2) := by simp [specs]
theorem specs_add {es : List Ent} {nms : List ByteArray} (nm : ByteArray) (h : nms.length < es.length) : specs es (nms ++ [nm]) = specs es nms ++ [(es[nms.length].1, aliasOf nm es[nms.length].2)] := by
  unfold specs
  conv => lhs; rw [← List.take_append_drop nms.length es]
  rw [List.zipWith_append (by rw [List.length_take]; omega), List.drop_eq_getElem_cons h]
  congr 1
  · conv => rhs; rw [← List.take_append_drop nms.length es]
    conv => rhs; rw [show nms = nms ++ [] by simp]
    rw [List.zipWith_append (by rw [List.length_take]; simp; omega)]
    simp
  · rw [List.zipWith_cons_cons, List.zipWith_nil_right]

theorem specs_apart {es : List Ent} {nms : List ByteArray} (hpl : PlainAll es) (hl : nms.length = es.length) : ∀ x ∈ specs es nms, ∀ y ∈ specs es nms, bltP x y = false → bltP y x = false → x = y := by
  intro x hx y hy h1 h2
  obtain ⟨i, hi, rfl⟩ := List.getElem_of_mem hx
  obtain ⟨j, hj, rfl⟩ := List.getElem_of_mem hy
  have hsl : (specs es nms).length = nms.length := specs_length (by omega)
  have ei := specs_get (es := es) (nms := nms) (i := i) (by omega) (by omega) hi
  have ej := specs_get (es := es) (nms := nms) (i := j) (by omega) (by omega) hj
  have hp : (specs es nms)[i].1 = (specs es nms)[j].1 := by
    simp only [bltP, decide_eq_false_iff_not] at h1 h2
    exact str_eq (List.le_antisymm (List.not_lt.1 h2) (List.not_lt.1 h1))
  rw [ei, ej] at hp
  have hij : i = j := by
    rcases Nat.lt_trichotomy i j with h | h | h
    · exact absurd hp (hpl.2 j i (by omega) h)
    · exact h
    · exact absurd hp.symm (hpl.2 i j (by omega) h)
  subst hij
  rfl

theorem Keep.narrow {m : Nat → Prop} {w w' : World} (h : Keep m w w') (hm : ∀ j, m j → w.heap.size ≤ j) : Keep (fun _ => False) w w' := ⟨h.os, h.tape, h.output, h.size, fun k hk _ => h.block k hk (fun h' => by have := hm k h'; omega)⟩

theorem Sc.frame {N S B : Nat} {ds gs : List ByteArray} {sp : List Ent} {dv gv iv : Value} {w w' : World} {m : Nat → Prop} (h : Sc N S B ds gs sp dv gv iv w) (hk : Keep m w w') (hm : ∀ k, m k → k ≠ S ∧ k ≠ B ∧ k < N ∧ dv.ownBlock ≠ some k) : Sc N S B ds gs sp dv gv iv w' := by
  refine ⟨?_, ?_, ?_, ?_, ?_, h.ap, h.low, Nat.le_trans h.size hk.size⟩
  · rw [hk.block S (block_lt h.blk) (fun hh => (hm S hh).1 rfl)]; exact h.blk
  · exact hk.cellA (fun hh => (hm B hh).2.1 rfl) h.box
  · exact row_keepK h.dec hk (fun k hk' hh => (hm k hh).2.2.2 hk')
  · exact row_keepK h.giv hk (fun k hk' hh => by have := (h.giv.lt k hk').1; have := (hm k hh).2.2.1; omega)
  · exact row_keepK h.imp hk (fun k hk' hh => by have := (h.imp.lt k hk').1; have := (hm k hh).2.2.1; omega)

/-- The law's first loop: k imports done. T: the world's size before the scope was made; the scope at T + 1 (its box at T), paths, aliases and names at T + 2, T + 3, T + 4. -/
structure Li (T : Nat) (es : List Ent) (ds : List ByteArray) (dv : Value) (k : Nat) (nms : List ByteArray) (w3 w : World) : Prop where
  len : nms.length = k
  nod : nms.Nodup
  free : ∀ x ∈ nms, x ∉ ds
  small : ∀ x ∈ nms, x.size ≤ 1048600
  sc : ∃ gv iv, Sc (T + 5) (T + 1) T ds nms (specs es nms) dv gv iv w
  pa : ∃ cs : Array Value, w.heap[T + 2]? = some (.cells cs 9 (0, 0)) ∧ cs.size = es.length ∧ ∀ i (h : i < es.length), i < k → cs[i]? = some (.string es[i].1)
  al : ∃ cs : Array Value, w.heap[T + 3]? = some (.cells cs 9 (0, 0)) ∧ cs.size = es.length ∧ (∀ i (h : i < es.length) (h2 : i < nms.length), cs[i]? = some (.string (aliasOf nms[i] es[i].2))) ∧ ∀ i, i < es.length → k ≤ i → cs[i]? = some (.string ⟨#[]⟩)
  na : ∃ cs : Array Value, w.heap[T + 4]? = some (.cells cs 9 (0, 0)) ∧ cs.size = es.length ∧ ∀ i (h2 : i < nms.length), cs[i]? = some (.string nms[i])
  kp : Keep (fun j => T ≤ j) w3 w

theorem Li.next {T : Nat} {es : List Ent} {ds : List ByteArray} {dv gv iv : Value} {k : Nat} {nms : List ByteArray} {w3 w wc W : World} {nm : ByteArray} (h : Li T es ds dv k nms w3 w) (hk : k < es.length) (hdv : ∀ j, dv.ownBlock = some j → j < T)
    (hnd : nm ∉ ds) (hng : nm ∉ nms) (hsz : nm.size ≤ 1048600) (hsc : Sc (T + 5) (T + 1) T ds (nms ++ [nm]) (specs es nms ++ [(es[k].1, aliasOf nm es[k].2)]) dv gv iv wc) (hkc : Keep (Mine (T + 5) (T + 1)) w wc)
    (hW : W = if nm = es[k].2 then (wc.setCell ⟨T + 4, k, none⟩ (.string nm)).setCell ⟨T + 2, k, none⟩ (.string es[k].1) else ((wc.setCell ⟨T + 4, k, none⟩ (.string nm)).setCell ⟨T + 2, k, none⟩ (.string es[k].1)).setCell ⟨T + 3, k, none⟩ (.string nm)) : Li T es ds dv (k + 1) (nms ++ [nm]) w3 W := by
  obtain ⟨cp, hp1, hp2, hp3⟩ := h.pa
  obtain ⟨ca, ha1, ha2, ha3, ha4⟩ := h.al
  obtain ⟨cn, hn1, hn2, hn3⟩ := h.na
  have hl := h.len
  have mine : ∀ j, j = T + 2 ∨ j = T + 3 ∨ j = T + 4 → ¬ Mine (T + 5) (T + 1) j := fun j hj hm => by
    rcases hm with hm | hm
    · omega
    · have : T + 5 ≤ j := hm; omega
  have hp1' := hkc.block (T + 2) (block_lt hp1) (mine _ (by omega))
  rw [hp1] at hp1'
  have ha1' := hkc.block (T + 3) (block_lt ha1) (mine _ (by omega))
  rw [ha1] at ha1'
  have hn1' := hkc.block (T + 4) (block_lt hn1) (mine _ (by omega))
  rw [hn1] at hn1'
  -- the three stores
  have hWn : W.heap[T + 4]? = some (.cells (cn.setIfInBounds k (.string nm)) 9 (0, 0)) := by
    rw [hW]
    split
    · rw [block_setCell_other (by omega)]; exact block_setCell hn1' _
    · rw [block_setCell_other (by omega), block_setCell_other (by omega)]; exact block_setCell hn1' _
  have hWp : W.heap[T + 2]? = some (.cells (cp.setIfInBounds k (.string es[k].1)) 9 (0, 0)) := by
    have e : (wc.setCell ⟨T + 4, k, none⟩ (.string nm)).heap[T + 2]? = some (.cells cp 9 (0, 0)) := by rw [block_setCell_other (by omega)]; exact hp1'
    rw [hW]
    split
    · exact block_setCell e _
    · rw [block_setCell_other (by omega)]; exact block_setCell e _
  have hWa : W.heap[T + 3]? = some (.cells (if nm = es[k].2 then ca else ca.setIfInBounds k (.string nm)) 9 (0, 0)) := by
    have e : ((wc.setCell ⟨T + 4, k, none⟩ (.string nm)).setCell ⟨T + 2, k, none⟩ (.string es[k].1)).heap[T + 3]? = some (.cells ca 9 (0, 0)) := by rw [block_setCell_other (by omega), block_setCell_other (by omega)]; exact ha1'
    rw [hW]
    split
    · exact e
    · exact block_setCell e _
  have kW : Keep (fun j => j = T + 2 ∨ j = T + 3 ∨ j = T + 4) wc W := by
    have k1 : Keep (fun j => j = T + 2 ∨ j = T + 3 ∨ j = T + 4) wc ((wc.setCell ⟨T + 4, k, none⟩ (.string nm)).setCell ⟨T + 2, k, none⟩ (.string es[k].1)) := Keep.setCell (b := T + 2) (Keep.setCell (b := T + 4) (Keep.refl _ _) (Or.inr (Or.inr rfl)) _) (Or.inl rfl) _
    rw [hW]
    split
    · exact k1
    · exact Keep.setCell (b := T + 3) k1 (Or.inr (Or.inl rfl)) _
  refine ⟨by simp [hl], ?_, ?_, ?_, ⟨gv, iv, ?_⟩, ⟨_, hWp, by rw [Array.size_setIfInBounds]; exact hp2, ?_⟩, ⟨_, hWa, by split <;> simp [ha2], ?_, ?_⟩, ⟨_, hWn, by rw [Array.size_setIfInBounds]; exact hn2, ?_⟩, ?_⟩
  · rw [List.nodup_append]
    refine ⟨h.nod, by simp, ?_⟩
    intro a ha b hb
    simp at hb
    subst hb
    exact fun e => hng (e ▸ ha)
  · intro x hx
    rcases List.mem_append.1 hx with hx | hx
    · exact h.free x hx
    · simp at hx; subst hx; exact hnd
  · intro x hx
    rcases List.mem_append.1 hx with hx | hx
    · exact h.small x hx
    · simp at hx; subst hx; exact hsz
  · have hlt : nms.length < es.length := by omega
    have e : specs es (nms ++ [nm]) = specs es nms ++ [(es[k].1, aliasOf nm es[k].2)] := by
      rw [specs_add nm hlt]
      subst hl
      rfl
    rw [e]
    exact hsc.frame kW (fun j hj => by
      refine ⟨by omega, by omega, by omega, fun hd => ?_⟩
      have := hdv j hd; omega)
  · intro i hi hik
    by_cases hk2 : i = k
    · subst hk2; rw [Array.getElem?_setIfInBounds_self_of_lt (by omega)]
    · rw [Array.getElem?_setIfInBounds_ne (by omega)]; exact hp3 i hi (by omega)
  · intro i hi hi2
    simp at hi2
    by_cases hk2 : i = k
    · subst hk2
      have e1 : (nms ++ [nm])[i] = nm := by simp [hl]
      rw [e1]
      unfold aliasOf
      split
      · exact ha4 i hi (Nat.le_refl _)
      · rw [Array.getElem?_setIfInBounds_self_of_lt (by omega)]
    · have e1 : (nms ++ [nm])[i] = nms[i]'(by omega) := by rw [List.getElem_append_left]
      rw [e1, ← ha3 i hi (by omega)]
      split
      · rfl
      · rw [Array.getElem?_setIfInBounds_ne (by omega)]
  · intro i hi hki
    rw [← ha4 i hi (by omega)]
    split
    · rfl
    · rw [Array.getElem?_setIfInBounds_ne (by omega)]
  · intro i hi2
    simp at hi2
    by_cases hk2 : i = k
    · subst hk2
      have e1 : (nms ++ [nm])[i] = nm := by simp [hl]
      rw [e1, Array.getElem?_setIfInBounds_self_of_lt (by omega)]
    · have e1 : (nms ++ [nm])[i] = nms[i]'(by omega) := by rw [List.getElem_append_left]
      rw [e1, Array.getElem?_setIfInBounds_ne (by omega)]
      exact hn3 i (by omega)
  · refine (h.kp.trans (hkc.mono (fun j hj => ?_))).trans (kW.mono (fun j hj => by omega))
    rcases hj with hj | hj
    · omega
    · have : T + 5 ≤ j := hj; omega

theorem strs_of_own {w : World} {b n : Nat} {v : Value} {zs : List ByteArray} (h : w.ownsRow b 9 1 v n (strs zs)) : ∃ p c, v = .slice p zs.length c ∧ Strs w p zs := by
  have hn : n = zs.length := by have := h.1; simp [strs] at this; omega
  subst hn
  rcases h.2 with ⟨rfl, h0⟩ | ⟨g, cap, cur, rfl, _, hg, _, _, _, htake⟩
  · exact ⟨none, 0, by rw [h0], fun i hi => by omega⟩
  · refine ⟨_, cap, rfl, fun i hi => ⟨_, rfl, ?_⟩⟩
    rw [Addr.add_lit, Nat.zero_add, block_cell hg]
    have h1 : (cur.toList.take (zs.length * 1))[i]? = some (.string zs[i]) := by
      rw [htake]
      simp [strs, hi]
    rw [List.getElem?_take_of_lt (by omega), Array.getElem?_toList] at h1
    exact h1

/-- The clone's cells. -/
theorem pairs_of_own {w : World} {b n : Nat} {v : Value} {es : List Ent} (h : w.ownsRow b 33 2 v n (pairCells es)) : ∃ p c, v = .slice p es.length c ∧ ∀ i (hi : i < es.length), ∃ g, p = some ⟨g, 0, none⟩ ∧ w.cell? ⟨g, i * 2, none⟩ = some (.string es[i].1) ∧ w.cell? ⟨g, i * 2 + 1, none⟩ = some (.string es[i].2) := by
  have hn : n = es.length := by have := h.1; rw [pair_length] at this; omega
  subst hn
  rcases h.2 with ⟨rfl, h0⟩ | ⟨g, cap, cur, rfl, _, hg, _, _, _, htake⟩
  · exact ⟨none, 0, by rw [h0], fun i hi => by omega⟩
  · refine ⟨_, cap, rfl, fun i hi => ⟨g, rfl, ?_, ?_⟩⟩
    · rw [block_cell hg, ← (pair_get es i hi).1, ← htake, List.getElem?_take_of_lt (by omega), Array.getElem?_toList]
    · rw [block_cell hg, ← (pair_get es i hi).2, ← htake, List.getElem?_take_of_lt (by omega), Array.getElem?_toList]

theorem li_zero {T : Nat} {es : List Ent} {ds : List ByteArray} {dv : Value} {w3 : World} {U : Array Value} (hT : T = w3.heap.size) (hd : w3.ownsRow 0 9 1 dv ds.length (strs ds)) (hU : U.size = es.length) (hU2 : ∀ i, i < es.length → U[i]? = some (.string ⟨#[]⟩)) :
    Li T es ds dv 0 [] w3 (((((w3.alloc (.cells #[dv] 23)).alloc (.cells #[.func (.func 15) #[] #[.pointer (some ⟨T, 0, none⟩)], .slice none 0 0, .slice none 0 0] 44)).alloc (.cells U 9)).alloc (.cells U 9)).alloc (.cells U 9)) := by
  have hk : Keep (fun _ => False) w3 (((((w3.alloc (.cells #[dv] 23)).alloc (.cells #[.func (.func 15) #[] #[.pointer (some ⟨T, 0, none⟩)], .slice none 0 0, .slice none 0 0] 44)).alloc (.cells U 9)).alloc (.cells U 9)).alloc (.cells U 9)) := (((((Keep.refl _ w3).alloc _).alloc _).alloc _).alloc _).alloc _
  obtain ⟨w4, hw4⟩ : ∃ w4, w4 = w3.alloc (.cells #[dv] 23) := ⟨_, rfl⟩
  obtain ⟨w5, hw5⟩ : ∃ w5, w5 = w4.alloc (.cells #[.func (.func 15) #[] #[.pointer (some ⟨T, 0, none⟩)], .slice none 0 0, .slice none 0 0] 44) := ⟨_, rfl⟩
  obtain ⟨w6, hw6⟩ : ∃ w6, w6 = w5.alloc (.cells U 9) := ⟨_, rfl⟩
  obtain ⟨w7, hw7⟩ : ∃ w7, w7 = w6.alloc (.cells U 9) := ⟨_, rfl⟩
  obtain ⟨w8, hw8⟩ : ∃ w8, w8 = w7.alloc (.cells U 9) := ⟨_, rfl⟩
  rw [← hw4, ← hw5, ← hw6, ← hw7, ← hw8] at hk ⊢
  have s4 : w4.heap.size = T + 1 := by rw [hw4, World.size_alloc, hT]
  have s5 : w5.heap.size = T + 2 := by rw [hw5, World.size_alloc, s4]
  have s6 : w6.heap.size = T + 3 := by rw [hw6, World.size_alloc, s5]
  have s7 : w7.heap.size = T + 4 := by rw [hw7, World.size_alloc, s6]
  have s8 : w8.heap.size = T + 5 := by rw [hw8, World.size_alloc, s7]
  have b0 : w8.heap[T]? = some (.cells #[dv] 23 (0, 0)) := by
    rw [hw8, heap_alloc_old _ _ (by omega), hw7, heap_alloc_old _ _ (by omega), hw6, heap_alloc_old _ _ (by omega), hw5, heap_alloc_old _ _ (by omega), hw4, hT]
    exact heap_alloc_new w3 _
  have b1 : w8.heap[T + 1]? = some (.cells #[.func (.func 15) #[] #[.pointer (some ⟨T, 0, none⟩)], .slice none 0 0, .slice none 0 0] 44 (0, 0)) := by
    rw [hw8, heap_alloc_old _ _ (by omega), hw7, heap_alloc_old _ _ (by omega), hw6, heap_alloc_old _ _ (by omega), hw5, ← s4]
    exact heap_alloc_new w4 _
  have b2 : w8.heap[T + 2]? = some (.cells U 9 (0, 0)) := by
    rw [hw8, heap_alloc_old _ _ (by omega), hw7, heap_alloc_old _ _ (by omega), hw6, ← s5]
    exact heap_alloc_new w5 _
  have b3 : w8.heap[T + 3]? = some (.cells U 9 (0, 0)) := by
    rw [hw8, heap_alloc_old _ _ (by omega), hw7, ← s6]
    exact heap_alloc_new w6 _
  have b4 : w8.heap[T + 4]? = some (.cells U 9 (0, 0)) := by
    rw [hw8, ← s7]
    exact heap_alloc_new w7 _
  refine ⟨rfl, List.nodup_nil, (fun x hx => by cases hx), (fun x hx => by cases hx), ⟨.slice none 0 0, .slice none 0 0, ⟨b1, block_cell b0, row_keepK hd hk (fun _ _ h => h), World.ownsRow_nil _ _ _ _, (by rw [show specs es [] = [] from by unfold specs; exact List.zipWith_nil_right]; exact World.ownsRow_nil _ _ _ _), (fun k hk => by cases hk), ⟨by omega, by omega, by omega, fun k hk' => ?_⟩, by omega⟩⟩, ⟨U, b2, hU, fun i _ h => by omega⟩, ⟨U, b3, hU, fun i _ h => by simp at h, fun i h _ => hU2 i h⟩, ⟨U, b4, hU, fun i h => by simp at h⟩, hk.mono (fun _ h => h.elim)⟩
  have := (hd.lt k hk').2
  omega

set_option maxRecDepth 100000 in
set_option maxHeartbeats 8000000 in
theorem law (p pd : Option Addr) (c cd : Nat) (es : List Ent) (ds : List ByteArray) (w : World) (hi : Imps w p es) (hd : Strs w pd ds) (hnp : p = none → es.length = 0 ∧ c = 0) (hnd : pd = none → ds.length = 0 ∧ cd = 0) (htab : Tabs w)
    (hmodel : ∀ (bp ba : Nat) (es : List Ent) (w : World), EntsAt bp ba es w → es.length ≤ 1000 → (∀ e ∈ es, e.1.size ≤ 1048576 ∧ e.2.size ≤ 1048600) → Calls Tryd.prog 13 #[.slice (some ⟨bp, 0, none⟩) es.length es.length, .slice (some ⟨ba, 0, none⟩) es.length es.length] w fun e w' => DeclPost es w e w') :
    Calls Tryd.prog 3 #[.slice p es.length c, .slice pd ds.length cd] w fun e w' => e = .returned (.bool true) ∧ Keep (fun _ => False) w w' := by
  have HI := Lib.hid hi
  have HD := Lib.hid hd
  have HTab := Lib.hid htab
  have HNp := Lib.hid hnp
  have HNd := Lib.hid hnd
  have HMod := Lib.hid hmodel
  clear hi hd htab hnp hnd hmodel
  go_enter Tryd.func3, Tryd.ntmps3
  go_wp2_with (go_at_call 4; refine (zzBytes4 p pd c cd es ds w HI.out HD.out).mono ?_; rintro x w1 ⟨⟨b, rfl, hb⟩, hw⟩; have hw := hw.symm; subst hw; refine Hid.out ?_)
  refine Lib.hid ?_
  cases b with
  | false =>
    go_wp2
    go_ret
    exact ⟨rfl, Keep.refl _ _⟩
  | true =>
  have hsm := hb rfl
  clear hb
  rcases Nat.lt_or_ge 256 es.length with hne | hne
  · have h1 : (256 : Int) < (es.length : Int) := by omega
    go_wp2
    go_ret
    exact ⟨rfl, Keep.refl _ _⟩
  have h1 : ¬ (256 : Int) < (es.length : Int) := by omega
  rcases Nat.lt_or_ge 256 ds.length with hnd | hnd
  · have h2 : (256 : Int) < (ds.length : Int) := by omega
    go_wp2
    go_ret
    exact ⟨rfl, Keep.refl _ _⟩
  have h2 : ¬ (256 : Int) < (ds.length : Int) := by omega
  have HSm := Lib.hid hsm
  clear hsm
  go_wp2_with (go_at_call 5; refine (zzImpBytes p pd c cd es ds w HI.out HD.out HSm.out).mono ?_; rintro x w1 ⟨⟨z, rfl⟩, q, rfl⟩; refine Hid.out ?_)
  refine Lib.hid ?_
  by_cases hz : (1048576 : Int) < z
  · go_wp2
    go_ret
    exact ⟨rfl, keep_drewN _⟩
  have C6 := zzPlain p c es (w.drewN q) HI.out (by omega) (fun i h => (HSm.out.2.2.1 i h).1)
  have HC6 := Lib.hid C6
  clear C6
  go_wp2_with (go_at_call 6; refine HC6.out.mono ?_; rintro x w1 ⟨⟨b, rfl, hb⟩, hw⟩; have hw := hw.symm; subst hw; refine Hid.out ?_)
  refine Lib.hid ?_
  cases b with
  | false =>
    go_wp2
    go_ret
    exact ⟨rfl, keep_drewN _⟩
  | true =>
  have hpl := hb rfl
  have HPl := Lib.hid hpl
  clear hb hpl HC6
  have C7 := zzCloneImps p c es (w.drewN q) (by omega) HI.out HNp.out
  have HC7 := Lib.hid C7
  clear C7
  go_wp2_with (go_at_call 7; refine HC7.out.mono ?_; rintro x w2 ⟨⟨v, rfl, hv⟩, hk2⟩; refine Hid.out ?_)
  refine Lib.hid ?_
  obtain ⟨ip, ic, hvv, hcl⟩ := pairs_of_own hv
  subst hvv
  have hdS : Strs w2 pd ds := fun i hi => by
    obtain ⟨a, ha, hc⟩ := HD.out i hi
    exact ⟨a, ha, hk2.cellA (fun h => h) hc⟩
  have C8 := zzCloneStrings pd cd ds w2 (by omega) hdS HNd.out
  have HC8 := Lib.hid C8
  have HCl := Lib.hid hcl
  have hkw2 : Keep (fun _ => False) w w2 := (keep_drewN q).trans hk2
  have HK2 := Lib.hid hkw2
  clear hv hk2 hdS C8 hcl hkw2 HC7
  go_wp2_with (go_at_call 8; refine HC8.out.mono ?_; rintro x w3 ⟨⟨dv, rfl, hdv⟩, hk3⟩; refine Hid.out ?_)
  refine Lib.hid ?_
  obtain ⟨dp, dc, hdvv, hds3⟩ := strs_of_own hdv
  subst hdvv
  obtain ⟨T, hT⟩ : ∃ T, T = w3.heap.size := ⟨_, rfl⟩
  have HDv := Lib.hid hdv
  have HK3 := Lib.hid hk3
  have HT := Lib.hid hT
  clear hdv hk3 hT hds3 HC8
  obtain ⟨U, hU, hU2, hmk⟩ := made_strs es.length (by omega)
  have HU := Lib.hid (And.intro hU hU2)
  clear hU hU2
  go_wp2_with (go_at_call 9; refine (newScope _ _ ⟨_, _, _, rfl⟩).mono ?_; rintro x w4 ⟨rfl, rfl⟩)
  have hd0 : w3.ownsRow 0 9 1 (.slice dp ds.length dc) ds.length (strs ds) := Go.Joins.ownsRow_le HDv.out (Nat.zero_le _)
  have hli := li_zero (es := es) HT.out hd0 HU.out.1 HU.out.2
  rw [show w3.heap.size + 1 + 1 + 1 + 1 = T + 4 by rw [HT.out], show w3.heap.size + 1 + 1 + 1 = T + 3 by rw [HT.out], show w3.heap.size + 1 + 1 = T + 2 by rw [HT.out], show w3.heap.size + 1 = T + 1 by rw [HT.out], ← HT.out]
  have hdvT : ∀ j, (Value.slice dp ds.length dc).ownBlock = some j → j < T := fun j hj => by rw [HT.out]; exact (HDv.out.lt j hj).2
  have HDvT := Lib.hid hdvT
  have HLi0 := Lib.hid hli
  clear hd0 hli hmk HU hdvT
  generalize ((((w3.alloc (.cells #[.slice dp ds.length dc] 23)).alloc (.cells #[.func (.func 15) #[] #[.pointer (some ⟨T, 0, none⟩)], .slice none 0 0, .slice none 0 0] 44)).alloc (.cells U 9)).alloc (.cells U 9)).alloc (.cells U 9) = w5 at HLi0 ⊢
  go_loopg [10] es.length (fun g x wx => ∃ (k : Nat) (nms : List ByteArray), x = .int .i64 k ∧ k + g = es.length ∧ Li T es ds (.slice dp ds.length dc) k nms w3 wx)
  case atStart => exact ⟨0, [], rfl, by omega, HLi0.out⟩
  case round =>
    obtain ⟨k, nms, rfl, hk, hli⟩ := hrel
    have HK := Lib.hid hk
    have HLi := Lib.hid hli
    clear hk hli HLi0
    by_cases hkn : k < es.length
    · have hki : (k : Int) < (es.length : Int) := by omega
      obtain ⟨gi, hgi, cP2, cG2⟩ := HCl.out k hkn
      subst hgi
      have hT2 : w2.heap.size ≤ T := by rw [HT.out]; exact HK3.out.size
      have hgT : ¬ T ≤ gi := by have := World.block_lt_of_cell? w2 _ cP2; simp at this; omega
      have hk2r : Keep (fun j => T ≤ j) w2 wr := (HK3.out.mono (fun _ h => h.elim)).trans HLi.out.kp
      have cP := hk2r.cellA (a := ⟨gi, k * 2, none⟩) hgT cP2
      have cG := hk2r.cellA (a := ⟨gi, k * 2 + 1, none⟩) hgT cG2
      obtain ⟨hsP, hsG⟩ := HSm.out.2.2.1 k hkn
      obtain ⟨P, hP⟩ : ∃ P, P = es[k].1 := ⟨_, rfl⟩
      obtain ⟨G, hG⟩ : ∃ G, G = es[k].2 := ⟨_, rfl⟩
      rw [← hP] at cP hsP
      rw [← hG] at cG hsG
      obtain ⟨gv, iv, hsc⟩ := HLi.out.sc
      have hlen := HLi.out.len
      have C10 : ∀ W : World, W.heap = wr.heap → W.os = wr.os → W.tape = wr.tape → W.output = wr.output → Calls Tryd.prog 10 #[.pointer (some ⟨T + 1, 0, none⟩), .string P, .string G] W fun e w' => ImportPost (T + 5) (T + 1) T ds nms (specs es nms) (.slice dp ds.length dc) P G wr e w' := fun W e1 e2 e3 e4 => by
        have hs : Same wr W := ⟨e1, e2, e3, e4⟩
        have hkW : Keep (fun _ => False) w W := (((HK2.out.trans HK3.out).mono (m' := fun j => T ≤ j) (fun _ h => h.elim)).trans (HLi.out.kp.trans (hs.keep _))).narrow (fun j hj => by have := HK2.out.size; have := HK3.out.size; have := HT.out; omega)
        have htW := HTab.out.below (hkW.below (Nat.le_refl _) (fun _ h => h.elim))
        have h1 := importOf (T + 5) (T + 1) T ds nms (specs es nms) (.slice dp ds.length dc) gv iv P G W (by omega) (by omega) (by rw [specs_length (by omega)]; omega) hsG (hsc.frame (hs.keep (fun _ => False)) (fun _ h => h.elim)) (Lib.tabBelow_of_tabIs htW.pow)
        refine h1.mono ?_
        rintro e w' ⟨nm, gv', iv', a1, a2, a3, a4, a5, a6⟩
        exact ⟨nm, gv', iv', a1, a2, a3, a4, a5, (hs.keep _).trans a6⟩
      have HC10 := Lib.hid C10
      have HP := Lib.hid hP
      have HG := Lib.hid hG
      have HGi := Lib.hid (fun (W : World) (hW : Keep (Mine (T + 5) (T + 1)) wr W) => And.intro (hW.cellA (a := ⟨gi, k * 2, none⟩) (fun hm => by rcases hm with hm | hm; exact hgT (by have : gi = T + 1 := hm; omega); exact hgT (by have : T + 5 ≤ gi := hm; omega)) cP) (hW.cellA (a := ⟨gi, k * 2 + 1, none⟩) (fun hm => by rcases hm with hm | hm; exact hgT (by have : gi = T + 1 := hm; omega); exact hgT (by have : T + 5 ≤ gi := hm; omega)) cG))
      clear C10 hP hG hsc hk2r cP2 cG2
      go_upto_region 19 with fail
      go_cut [11] from 52 to 63 (fun x wx => ImportPost (T + 5) (T + 1) T ds nms (specs es nms) (.slice dp ds.length dc) P G wr (.returned x) wx)
      case first =>
        go_region_with (go_at_call 10; refine (HC10.out _ ?_ ?_ ?_ ?_).mono ?_; rfl; rfl; rfl; rfl; rintro e1 w1 ⟨nm, gv', iv', rfl, b2, b3, b4, b5, b6⟩)
        all_goals
          go_wp2_with fail
          go_meet
          exact ⟨nm, gv', iv', rfl, b2, b3, b4, b5, b6⟩
      case rest =>
      obtain ⟨nm, gv', iv', hx, hnd', hng, hsz, hsc, hkc⟩ := hcut
      injection hx with hx
      subst hx
      obtain ⟨cP', cG'⟩ := HGi.out _ hkc
      have mine : ∀ j, j = T + 2 ∨ j = T + 3 ∨ j = T + 4 → ¬ Mine (T + 5) (T + 1) j := fun j hj hm => by
        rcases hm with hm | hm
        · omega
        · have : T + 5 ≤ j := hm; omega
      have hcells : ∀ j, j = T + 2 ∨ j = T + 3 ∨ j = T + 4 → (∃ o, wc.cell? ⟨j, k, none⟩ = some o) ∧ wc.frozen? ⟨j, k, none⟩ = false := fun j hj => by
        obtain ⟨cs, hb, hs⟩ : ∃ cs : Array Value, wr.heap[j]? = some (.cells cs 9 (0, 0)) ∧ cs.size = es.length := by
          rcases hj with rfl | rfl | rfl
          · obtain ⟨cs, h1, h2, _⟩ := HLi.out.pa; exact ⟨cs, h1, h2⟩
          · obtain ⟨cs, h1, h2, _⟩ := HLi.out.al; exact ⟨cs, h1, h2⟩
          · obtain ⟨cs, h1, h2, _⟩ := HLi.out.na; exact ⟨cs, h1, h2⟩
        have hb' := hkc.block j (block_lt hb) (mine j hj)
        rw [hb] at hb'
        exact ⟨⟨cs[k]'(by omega), by rw [block_cell hb']; exact Array.getElem?_eq_getElem _⟩, block_free hb'⟩
      obtain ⟨⟨o2, d2⟩, f2⟩ := hcells (T + 2) (by omega)
      obtain ⟨⟨o3, d3⟩, f3⟩ := hcells (T + 3) (by omega)
      obtain ⟨⟨o4, d4⟩, f4⟩ := hcells (T + 4) (by omega)
      have HNext := Lib.hid (fun W hW => HLi.out.next (W := W) hkn HDvT.out hnd' hng (by omega) (by rw [← HP.out, ← HG.out]; exact hsc) hkc hW)
      have hxg : gi ≠ T + 4 ∧ gi ≠ T + 2 := by constructor <;> omega
      clear hcells mine hnd' hng hsz hsc hkc HC10 HGi
      have hxg1 := hxg.1
      have hxg2 := hxg.2
      clear hxg
      by_cases hne2 : nm = G
      · have hb1 := str_yes hne2
        have HW := Lib.hid (HNext.out _ (if_pos (hne2.trans HG.out)).symm)
        clear HNext hne2
        go_wp2
        go_roundg (gk - 1)
        case measure => have := HK.out; omega
        case rel => exact ⟨k + 1, nms ++ [nm], by go_num, by have := HK.out; omega, by rw [HP.out]; exact HW.out⟩
      · have hb1 := str_no hne2
        have HW := Lib.hid (HNext.out _ (if_neg (fun h => hne2 (h.trans HG.out.symm))).symm)
        clear HNext hne2
        go_wp2
        go_roundg (gk - 1)
        case measure => have := HK.out; omega
        case rel => exact ⟨k + 1, nms ++ [nm], by go_num, by have := HK.out; omega, by rw [HP.out]; exact HW.out⟩
    · have hki : ¬ (k : Int) < (es.length : Int) := by omega
      have hke : k = es.length := by have := HK.out; omega
      subst hke
      obtain ⟨wL, hwL⟩ : ∃ wL, wL = wr := ⟨_, rfl⟩
      subst hwL
      obtain ⟨cn, hn1, hn2, hn3⟩ := HLi.out.na
      have hnl := HLi.out.len
      have hkf : Keep (fun _ => False) w wL := (((HK2.out.trans HK3.out).mono (m' := fun j => T ≤ j) (fun _ h => h.elim)).trans HLi.out.kp).narrow (fun j hj => by have := HK2.out.size; have := HK3.out.size; have := HT.out; omega)
      have hds : ∀ W : World, Keep (fun _ => False) wL W → Strs W dp ds := fun W hW => by
        obtain ⟨p1, c1, e1, h1⟩ := strs_of_own HDv.out
        injection e1 with e1 _ _
        subst e1
        exact fun i hi => by
          obtain ⟨a, ha, hc⟩ := h1 i hi
          refine ⟨a, ha, (HLi.out.kp.trans (hW.mono (fun _ h => h.elim))).cellA (fun hh => ?_) hc⟩
          have := World.block_lt_of_cell? w3 _ hc
          rw [HT.out] at hh
          simp only [Addr.add] at this hh
          split at this <;> split at hh <;> simp_all <;> omega
      have cN : ∀ i (hi : i < nms.length), wL.cell? ⟨T + 4, i, none⟩ = some (.string nms[i]) := fun i hi => by rw [block_cell hn1]; exact hn3 i hi
      have HCN := Lib.hid cN
      have HDs := Lib.hid hds
      have HKf := Lib.hid hkf
      have HFree := Lib.hid HLi.out.free
      have HNod := Lib.hid HLi.out.nod
      clear cN hds hkf hn1 hn2 hn3 HK
      go_wp2_with fail
      go_loopg [12] es.length (fun g x wx => (∃ q, wx = wL.drewN q) ∧ ∃ (m : Nat), x = .int .i64 m ∧ m + g = es.length)
      case atStart => exact ⟨⟨0, rfl⟩, 0, rfl, by omega⟩
      case round =>
        obtain ⟨⟨q2, hw⟩, m, rfl, hm⟩ := hrel
        subst hw
        have HM := Lib.hid hm
        clear hm
        by_cases hmn : m < es.length
        · have hmi : (m : Int) < (es.length : Int) := by omega
          have cM := HCN.out m (by omega)
          have hfm := HFree.out _ (List.getElem_mem (show m < nms.length by omega))
          have C11 := zzContains dp dc ds (nms[m]'(by omega)) (wL.drewN q2) (by omega) (HDs.out _ (keep_drewN q2))
          rw [show Lib.containsS ds (nms[m]'(by omega)) = false by rw [← Bool.not_eq_true, Lib.containsS_iff]; exact hfm] at C11
          have hdist : ∀ j (hj : j < m), nms[j]'(by omega) ≠ nms[m]'(by omega) := fun j hj e => by
            exact (List.pairwise_iff_getElem.1 HNod.out) j m (by omega) (by omega) hj e
          obtain ⟨y, hy⟩ : ∃ y, y = nms[m]'(by omega) := ⟨_, rfl⟩
          rw [← hy] at cM C11
          have HDist : Hid (∀ j (hj : j < m), nms[j]'(by omega) ≠ y) := Lib.hid (fun j hj => by rw [hy]; exact hdist j hj)
          have HC11 := Lib.hid C11
          clear C11 hfm hdist hy
          go_wp2_with (go_at_call 11; refine HC11.out.mono ?_; rintro x w6 ⟨rfl, hw⟩; have hw := hw.symm; subst hw; refine Hid.out ?_)
          refine Lib.hid ?_
          go_wp2_with fail
          go_loopg [13] m (fun g x wx => (∃ q, wx = wL.drewN q) ∧ ∃ (j : Nat), x = .int .i64 j ∧ j + g = m)
          case atStart => exact ⟨⟨q2, rfl⟩, 0, rfl, by omega⟩
          case round =>
            obtain ⟨⟨q3, hw⟩, j, rfl, hj⟩ := hrel
            subst hw
            have HJ := Lib.hid hj
            clear hj
            by_cases hjm : j < m
            · have hji : (j : Int) < (m : Int) := by omega
              have hji2 : (j : Int) < (es.length : Int) := by omega
              have cJ := HCN.out j (by omega)
              have hne3 := HDist.out j hjm
              obtain ⟨z2, hz2⟩ : ∃ z2, z2 = nms[j]'(by omega) := ⟨_, rfl⟩
              rw [← hz2] at cJ hne3
              have hb3 := str_no hne3
              clear hz2 hne3
              go_upto_region 32 with fail
              go_quiet (fail)
              go_wp2
              go_roundg (gk - 1)
              case measure => have := HJ.out; omega
              case rel => exact ⟨⟨_, rfl⟩, j + 1, by go_num, by have := HJ.out; omega⟩
            · have hji : ¬ (j : Int) < (m : Int) := by omega
              go_wp2
              go_roundg (es.length - (m + 1))
              case measure => have := HM.out; omega
              case rel => exact ⟨⟨_, rfl⟩, m + 1, by go_num, by omega⟩
        · have hmi : ¬ (m : Int) < (es.length : Int) := by omega
          obtain ⟨gv, iv, hsc⟩ := HLi.out.sc
          have hspl : (specs es nms).length = es.length := by rw [specs_length (by omega)]; omega
          have hspe : ∀ e ∈ specs es nms, e.1.size ≤ 1048576 ∧ e.2.size ≤ 1048600 ∧ ∀ b ∈ e.1.data.toList, plainB b := fun e he => by
            obtain ⟨i, hi, rfl⟩ := List.getElem_of_mem he
            have hi1 : i < es.length := by omega
            have hi2 : i < nms.length := by omega
            rw [specs_get hi1 hi2 hi]
            refine ⟨(HSm.out.2.2.1 i hi1).1, ?_, HPl.out.1 i hi1⟩
            show (aliasOf nms[i] es[i].2).size ≤ _
            unfold aliasOf
            split
            · decide
            · exact HLi.out.small _ (List.getElem_mem hi2)
          have htL := HTab.out.below (w' := wL.drewN q2) ((HKf.out.drewN q2).below (Nat.le_refl _) (fun _ h => h.elim))
          have C12 := importDecl (T + 5) (T + 1) (specs es nms) iv (wL.drewN q2) (block_cell hsc.blk) hsc.imp (by omega) (fun e he => ⟨(hspe e he).1, (hspe e he).2.1⟩) (fun e he => (hspe e he).2.2) htL
          have hea : EntsAt (T + 2) (T + 3) (specs es nms) wL := fun i hi => by
            have hi1 : i < es.length := by omega
            have hi2 : i < nms.length := by omega
            obtain ⟨cp, p1, p2, p3⟩ := HLi.out.pa
            obtain ⟨ca, a1, a2, a3, _⟩ := HLi.out.al
            rw [specs_get hi1 hi2 hi, block_cell p1, block_cell a1]
            exact ⟨p3 i hi1 (by omega), a3 i hi1 hi2⟩
          have C13 : ∀ W, Keep (fun _ => False) wL W → Calls Tryd.prog 13 #[.slice (some ⟨T + 2, 0, none⟩) es.length es.length, .slice (some ⟨T + 3, 0, none⟩) es.length es.length] W fun e w' => DeclPost (specs es nms) W e w' := fun W hW => by
            have := HMod.out (T + 2) (T + 3) (specs es nms) W (hea.keep hW) (by omega) (fun e he => ⟨(hspe e he).1, (hspe e he).2.1⟩)
            rw [hspl] at this
            exact this
          have hap := specs_apart (nms := nms) HPl.out (by omega)
          have HC12 := Lib.hid C12
          have HC13 := Lib.hid C13
          have HAp := Lib.hid hap
          clear C12 C13 hea htL hspe hspl hsc hap
          go_wp2_with (first | (go_at_call 12; refine HC12.out.mono ?_; rintro x w6 ⟨X1, d1, rfl, hp1, hs1, hx1, hk6⟩; have HX1 := Lib.hid (And.intro hp1 (And.intro hs1 hx1)); have HK6 := Lib.hid ((keep_drewN (w := wL) q2).trans hk6); clear hp1 hs1 hx1 hk6) | (go_at_call 13; refine (HC13.out _ HK6.out).mono ?_; rintro x w7 ⟨X2, d2, rfl, hp2, hs2, hx2, hk7⟩; refine Hid.out ?_))
          refine Lib.hid ?_
          obtain ⟨hp1, hs1, hx1⟩ := HX1.out
          have hdd : d1 = d2 := one_order d1 d2 (hp1.trans hp2.symm) hs1 hs2 (fun x hx y hy => HAp.out x (hp1.mem_iff.1 hx) y (hp1.mem_iff.1 hy))
          have hXX : X1 = X2 := str_eq (by rw [hx1, hx2, hdd])
          have hb4 := str_yes hXX
          have HKe := Lib.hid ((HKf.out.trans HK6.out).trans hk7)
          clear hp1 hs1 hx1 hp2 hs2 hx2 hk7 hdd hXX
          go_wp2
          go_ret
          exact ⟨rfl, HKe.out⟩
end Go.Proofs.Qxb6604462aDoor
