/-
  seat b6604462aD: zzModelDeclB1, walked: two imports and more.
-/
import Derived.Test.Qxb6604462aDoorRank
import Derived.Test.Qxb6604462aDoorModel
namespace Go.Proofs.Qxb6604462aDoor
open Go Go.RowKit Go.Sort

/-- The row of indices. -/
structure Ix (I : Nat) (es : List Ent) (D : Array Nat) (w0 w : World) : Prop where
  blk : w.heap[I]? = some (.cells (idxCells D) 3 (0, 0))
  size : D.size = es.length
  perm : D.toList.Perm (List.range es.length)
  kp : Keep (fun _ => False) w0 w

theorem less_is (a b : ByteArray) : Op.bytesLess a.toList b.toList = decide (a.data.toList < b.data.toList) := by
  rw [ByteArray.toList_eq, ByteArray.toList_eq]
  exact bytesLess_eq _ _

theorem Ix.swap {I : Nat} {es : List Ent} {D : Array Nat} {w0 w W : World} {m : Nat} (h : Ix I es D w0 w) (hm : m + 1 < es.length) (hI : w0.heap.size ≤ I) (hW : Keep (fun _ => False) w W) :
    Ix I es (swp D (m + 1) m) w0 ((W.setCell ⟨I, m + 1, none⟩ (.int .i64 (D[m]! : Nat))).setCell ⟨I, m, none⟩ (.int .i64 (D[m + 1]! : Nat))) := by
  have hb := hW.block I (block_lt h.blk) (fun h => h)
  rw [h.blk] at hb
  refine ⟨?_, by rw [swp_size]; exact h.size, perm_swp h.size h.perm hm (by omega), ?_⟩
  · have := block_setCell (o := m) (block_setCell (o := m + 1) hb (.int .i64 (D[m]! : Nat))) (.int .i64 (D[m + 1]! : Nat))
    rw [idx_set, idx_set] at this
    exact this
  · refine (h.kp.trans hW).trans' (Keep.setCell (m := fun j => j = I) (Keep.setCell (m := fun j => j = I) (Keep.refl _ _) rfl _) rfl _) (fun j hj => Or.inr (by omega))

theorem own_cell {w : World} {M : Nat} {g : Addr} {s : Option Addr} {n c : Nat} {xs : List UInt8} (h : w.ownsRow M 5 1 (.slice s n c) n (Lib.byteCells xs)) (hg : s = some g) : ∀ j u, (Lib.byteCells xs)[j]? = some u → w.cell? (g.add j) = some u := fun j u hj => by
  subst hg
  rcases h.2 with ⟨h0, _⟩ | ⟨g', cap, cur, hv, _, hb, _, _, _, htk⟩
  · cases h0
  · injection hv with e1 _ _
    injection e1 with e1
    subst e1
    have hl : (Lib.byteCells xs).length = n := by have := h.1; omega
    have hj2 : j < n := by rw [← hl]; exact (List.getElem?_eq_some_iff.1 hj).1
    rw [Addr.add_lit, Nat.zero_add, block_cell hb]
    rw [← htk, List.getElem?_take_of_lt (by omega), Array.getElem?_toList] at hj
    exact hj
theorem own_some {w : World} {M : Nat} {s : Option Addr} {n c : Nat} {xs : List Value} (h : w.ownsRow M 5 1 (.slice s n c) n xs) (hn : 0 < n) : ∃ g, s = some g := by
  rcases h.2 with ⟨h0, _⟩ | ⟨g, cap, cur, hv, _⟩
  · injection h0 with _ e _
    omega
  · injection hv with e _ _
    exact ⟨_, e⟩
theorem Keep.nil {w w' : World} (h : Keep (fun k => (Value.slice none 0 0).ownBlock = some k) w w') : Keep (fun _ => False) w w' := h.mono (fun k hk => by cases hk)

theorem Ap.chain {base : Nat} {v v1 v2 : Value} {w w1 w2 : World} {xs ys : List UInt8} (h : Ap base v w xs v1 w1) (h2 : Ap base v1 w1 ys v2 w2) : Ap base v w ys v2 w2 :=
  ⟨h2.row, h.kp.trans' h2.kp (fun k hk => by
    rcases h.fr with hf | hf
    · exact Or.inl (hf ▸ hk)
    · exact Or.inr (hf k hk)), h.fr.trans h.kp.size h2.fr⟩

set_option maxRecDepth 100000 in
set_option maxHeartbeats 8000000 in
theorem modelMany (bp ba : Nat) (es : List Ent) (w : World) (h : EntsAt bp ba es w) (htwo : 2 ≤ es.length) (hl : es.length ≤ 1000) (hsz : ∀ e ∈ es, e.1.size ≤ 1048576 ∧ e.2.size ≤ 1048600) :
    Calls Tryd.prog 13 #[.slice (some ⟨bp, 0, none⟩) es.length es.length, .slice (some ⟨ba, 0, none⟩) es.length es.length] w fun e w' => DeclPost es w e w' := by
  obtain ⟨i0, hi, hz0, hz1, hz2⟩ := infoByte
  have HE := Lib.hid h
  have HSz := Lib.hid hsz
  clear h hsz
  have hne0 : ((es.length : Int) == 0) = false := beq_no (by omega)
  have hne1 : ((es.length : Int) == 1) = false := beq_no (by omega)
  obtain ⟨U, hU, hU2, hmk⟩ := made_ints es.length (by omega)
  have hUD : U = idxCells (Array.replicate es.length 0) := by
    apply Array.ext_getElem?
    intro i
    by_cases hi : i < es.length
    · rw [hU2 i hi]
      simp [idxCells, hi]
    · rw [Array.getElem?_eq_none (by omega), Array.getElem?_eq_none (by simp [idxCells]; omega)]
  have HUD := Lib.hid hUD
  obtain ⟨I, hI⟩ : ∃ I, I = w.heap.size := ⟨_, rfl⟩
  have HI := Lib.hid hI
  clear hU hU2 hUD hI
  go_enter Tryd.func13, Tryd.ntmps13
  go_wp2_with fail
  rw [← HI.out]
  go_loopg [8] es.length (fun g x wx => ∃ (k : Nat) (D : Array Nat), x = .int .i64 k ∧ k + g = es.length ∧ wx.heap[I]? = some (.cells (idxCells D) 3 (0, 0)) ∧ D.size = es.length ∧ (∀ i, i < k → D[i]? = some i) ∧ Keep (fun _ => False) w wx)
  case atStart => exact ⟨0, _, rfl, by omega, by rw [HI.out, HUD.out]; exact heap_alloc_new w _, by simp, (fun i h => by omega), (Keep.refl _ w).alloc _⟩
  case round =>
    obtain ⟨k, D, rfl, hk, hblk, hDs, hall, hkp⟩ := hrel
    have HK := Lib.hid hk
    have HBlk := Lib.hid hblk
    have HDs := Lib.hid hDs
    have HAll := Lib.hid hall
    have HKp := Lib.hid hkp
    clear hk hblk hDs hall hkp
    by_cases hkn : k < es.length
    · have hki : (k : Int) < (es.length : Int) := by omega
      have hold : wr.cell? ⟨I, k, none⟩ = some (.int .i64 (D[k]! : Nat)) := by rw [block_cell HBlk.out]; exact idx_get (by rw [HDs.out]; exact hkn)
      have hfree : wr.frozen? ⟨I, k, none⟩ = false := block_free HBlk.out
      go_wp2
      go_roundg (gk - 1)
      case measure => have := HK.out; omega
      case rel =>
        refine ⟨k + 1, D.setIfInBounds k k, by go_num, by have := HK.out; omega, ?_, by rw [Array.size_setIfInBounds]; exact HDs.out, fun i hi => ?_, HKp.out.trans' (Keep.setCell (m := fun j => j = I) (Keep.refl _ _) rfl _) (fun j hj => Or.inr (by rw [hj, HI.out]; exact Nat.le_refl _))⟩
        · have := block_setCell (o := k) HBlk.out (.int .i64 (k : Nat))
          rw [idx_set] at this
          exact this
        · by_cases hik : i = k
          · subst hik
            rw [Array.getElem?_setIfInBounds_self_of_lt (by rw [HDs.out]; exact hkn)]
          · rw [Array.getElem?_setIfInBounds_ne (by omega)]
            exact HAll.out i (by omega)
    · have hki : ¬ (k : Int) < (es.length : Int) := by omega
      have hDr : D.toList = List.range es.length := by
        apply List.ext_getElem?
        intro i
        by_cases hi : i < es.length
        · rw [Array.getElem?_toList, HAll.out i (by omega)]
          simp [hi]
        · rw [List.getElem?_eq_none (by simp [HDs.out]; omega), List.getElem?_eq_none (by simp; omega)]
      have HIx : Hid (Ix I es D w wr) := Lib.hid ⟨HBlk.out, HDs.out, by rw [hDr], HKp.out⟩
      clear hDr HBlk HDs HAll HKp HK
      go_wp2_with fail
      go_loopg [9] (es.length - 1) (fun g x wx => ∃ (k : Nat) (D : Array Nat), x = .int .i64 k ∧ 1 ≤ k ∧ k + g = es.length ∧ Ix I es D w wx ∧ SortedIn (ltI es) 0 k D)
      case atStart => exact ⟨1, D, rfl, Nat.le_refl _, by omega, HIx.out, fun i j h1 h2 h3 => by omega⟩
      case round =>
        obtain ⟨k2, D2, rfl, hk1, hk, hix, hso⟩ := hrel
        have HK := Lib.hid hk
        have HIx2 := Lib.hid hix
        have HSo := Lib.hid hso
        clear hk hix hso HIx
        by_cases hkn : k2 < es.length
        · have hki2 : (k2 : Int) < (es.length : Int) := by omega
          go_wp2_with fail
          go_loopg [10] k2 (fun g x wx => ∃ (D : Array Nat), x = .int .i64 (g : Nat) ∧ g ≤ k2 ∧ Ix I es D w wx ∧ Ins (ltI es) 0 g k2 D)
          case atStart => exact ⟨D2, rfl, Nat.le_refl _, HIx2.out, ⟨fun p q hap hpq hqi _ hq => HSo.out p q hap hpq (by omega), fun q h1 h2 => by omega⟩⟩
          case round =>
            obtain ⟨D3, rfl, hgk, hix3, hins⟩ := hrel
            have HIx3 := Lib.hid hix3
            have HIns := Lib.hid hins
            clear hix3 hins HIx2 HSo
            have hcase : gk = 0 ∨ ∃ m, gk = m + 1 := by
              rcases Nat.eq_zero_or_pos gk with h | h
              · exact Or.inl h
              · exact Or.inr ⟨gk - 1, by omega⟩
            rcases hcase with hg0 | ⟨m, hgm⟩
            · subst hg0
              have hso := HIns.out.stop (ltI_swo es) (Or.inl (Nat.le_refl _))
              have HSo := Lib.hid hso
              clear hso HIns
              go_upto_region 17 with fail
              go_quiet (fail)
              go_wp2
              go_roundg (es.length - (k2 + 1))
              case measure => have := HK.out; omega
              case rel => exact ⟨k2 + 1, D3, by go_num, by omega, by omega, ⟨HIx3.out.blk, HIx3.out.size, HIx3.out.perm, HIx3.out.kp.drewN _⟩, HSo.out⟩
            · subst hgm
              have hm1 : m + 1 < es.length := by omega
              have hs3 := HIx3.out.size
              have c1 : wr.cell? ⟨I, m + 1, none⟩ = some (.int .i64 (D3[m + 1]! : Nat)) := by rw [block_cell HIx3.out.blk]; exact idx_get (by omega)
              have c0 : wr.cell? ⟨I, m, none⟩ = some (.int .i64 (D3[m]! : Nat)) := by rw [block_cell HIx3.out.blk]; exact idx_get (by omega)
              have f1 : wr.frozen? ⟨I, m + 1, none⟩ = false := block_free HIx3.out.blk
              have f0 : wr.frozen? ⟨I, m, none⟩ = false := block_free HIx3.out.blk
              have lA := perm_lt HIx3.out.size HIx3.out.perm hm1
              have lB := perm_lt HIx3.out.size HIx3.out.perm (show m < es.length by omega)
              have hIw : w.heap.size ≤ I := by rw [HI.out]; exact Nat.le_refl _
              have HSw := Lib.hid (fun (W : World) (hW : Keep (fun _ => False) wr W) => HIx3.out.swap hm1 hIw hW)
              have HStep := Lib.hid (fun hlt => HIns.out.step (j := m) hlt (Nat.zero_le _) (by omega))
              have HStop := Lib.hid (fun hlt => HIns.out.stop (ltI_swo es) (Or.inr hlt))
              have pA := HIx3.out.kp.cellA (fun h => h) (HE.out _ lA).1
              have pB := HIx3.out.kp.cellA (fun h => h) (HE.out _ lB).1
              have hltI : ltI es D3[m + 1]! D3[m]! = Op.bytesLess (es[D3[m + 1]!]'lA).1.toList (es[D3[m]!]'lB).1.toList := by
                rw [less_is]
                unfold ltI
                rw [entAt_lt lA, entAt_lt lB]
                rfl
              obtain ⟨PA, hPA⟩ : ∃ PA, PA = (es[D3[m + 1]!]'lA).1 := ⟨_, rfl⟩
              obtain ⟨PB, hPB⟩ : ∃ PB, PB = (es[D3[m]!]'lB).1 := ⟨_, rfl⟩
              rw [← hPA] at pA hltI
              rw [← hPB] at pB hltI
              clear hPA hPB
              obtain ⟨A, hA⟩ : ∃ A, A = D3[m + 1]! := ⟨_, rfl⟩
              obtain ⟨B, hB⟩ : ∃ B, B = D3[m]! := ⟨_, rfl⟩
              have HA := Lib.hid hA
              have HB := Lib.hid hB
              rw [← hA] at c1 lA pA
              rw [← hB] at c0 lB pB
              clear hA hB hs3
              have lAi : (A : Int) < (es.length : Int) := by omega
              have lBi : (B : Int) < (es.length : Int) := by omega
              have mi : (m : Int) + 1 < (es.length : Int) := by omega
              have mi0 : (m : Int) < (es.length : Int) := by omega
              cases hlt : Op.bytesLess PA.toList PB.toList with
              | true =>
                have HLt := Lib.hid (hltI.trans hlt)
                clear hltI HStop
                go_upto_region 17 with fail
                go_quiet (fail)
                go_wp2
                go_roundg m
                case measure => omega
                case rel => exact ⟨swp D3 (m + 1) m, rfl, by omega, by rw [HA.out, HB.out]; exact HSw.out _ ((Keep.refl _ wr).drewN _), HStep.out HLt.out⟩
              | false =>
                have HLt := Lib.hid (hltI.trans hlt)
                clear hltI HStep HSw
                go_upto_region 17 with fail
                go_quiet (fail)
                go_wp2
                go_roundg (es.length - (k2 + 1))
                case measure => have := HK.out; omega
                case rel => exact ⟨k2 + 1, D3, by go_num, by omega, by omega, ⟨HIx3.out.blk, HIx3.out.size, HIx3.out.perm, HIx3.out.kp.drewN _⟩, HStop.out HLt.out⟩
        · have hki2 : ¬ (k2 : Int) < (es.length : Int) := by omega
          have hke : k2 = es.length := by have := HK.out; omega
          subst hke
          obtain ⟨hperm, hsort⟩ := rank_end HIx2.out.size HIx2.out.perm HSo.out
          obtain ⟨d, hd⟩ : ∃ d, d = D2.toList.map (entAt es) := ⟨_, rfl⟩
          rw [← hd] at hperm hsort
          have hdl : d.length = es.length := hperm.length_eq
          have hszd : ∀ e ∈ d, e.1.size ≤ 1048576 ∧ e.2.size ≤ 1048600 := fun e he => HSz.out e (hperm.mem_iff.1 he)
          have hDat : ∀ i (hi : i < es.length), ∃ hlt : D2[i]! < es.length, ∃ hid : i < d.length, d[i] = es[D2[i]!] := fun i hi => by
            refine ⟨perm_lt HIx2.out.size HIx2.out.perm hi, by omega, ?_⟩
            have e1 : d[i]'(by omega) = entAt es (D2.toList[i]'(by simp [HIx2.out.size]; exact hi)) := by simp [hd]
            rw [e1, ← entAt_lt (perm_lt HIx2.out.size HIx2.out.perm hi)]
            congr 1
            rw [getElem!_pos D2 i (by rw [HIx2.out.size]; exact hi)]
            simp
          have HPerm := Lib.hid hperm
          have HSort := Lib.hid hsort
          have HSzd := Lib.hid hszd
          have HDat := Lib.hid hDat
          have HDl := Lib.hid hdl
          obtain ⟨w2, hw2⟩ : ∃ w2, w2 = wr := ⟨_, rfl⟩
          obtain ⟨M, hM⟩ : ∃ M, M = w2.heap.size := ⟨_, rfl⟩
          have HM := Lib.hid hM
          have HKw : Hid (Keep (fun _ => False) w w2) := Lib.hid (by rw [hw2]; exact HIx2.out.kp)
          have HBlk : Hid (w2.heap[I]? = some (.cells (idxCells D2) 3 (0, 0))) := Lib.hid (by rw [hw2]; exact HIx2.out.blk)
          have HD2s := Lib.hid HIx2.out.size
          subst hw2
          clear hperm hsort hszd hDat hdl hM hd HSo HIx2 HK
          go_wp2_with fail
          go_loopg [12, 13, 14, 15, 16] es.length (fun g x12 x13 x14 x15 x16 wx => ∃ (k : Nat) (sv ov : Value), x12 = sv ∧ x13 = ov ∧ x14 = .int .i64 (fl Go.Proofs.Qxb6604462aDoor.std (d.take k) : Nat) ∧ x15 = .int .i64 (fl (fun e => !Go.Proofs.Qxb6604462aDoor.std e) (d.take k) : Nat) ∧ x16 = .int .i64 k ∧ k + g = es.length ∧ Lm M d k sv ov w2 wx)
          case atStart => exact ⟨0, _, _, rfl, rfl, rfl, rfl, rfl, by omega, ⟨World.ownsRow_nil _ _ _ _, World.ownsRow_nil _ _ _ _, fun _ => rfl, fun _ => rfl, (fun j hj => by cases hj), Keep.refl _ _⟩⟩
          case round =>
            obtain ⟨k3, sv, ov, rfl, rfl, rfl, rfl, rfl, hk3, hlm⟩ := hrel
            obtain ⟨s1, c1, hs1⟩ := slice_of_own hlm.s
            obtain ⟨s2, c2, hs2⟩ := slice_of_own hlm.o
            subst hs1 hs2
            have hf1 := fl_le Go.Proofs.Qxb6604462aDoor.std d k3
            have hf2 := fl_le (fun e => !Go.Proofs.Qxb6604462aDoor.std e) d k3
            have HK3 := Lib.hid hk3
            have HLm := Lib.hid hlm
            clear hk3 hlm
            by_cases hkn : k3 < es.length
            · have hki3 : (k3 : Int) < (es.length : Int) := by omega
              obtain ⟨hlt, hkn3, hde⟩ := HDat.out k3 hkn
              have cI : wr.cell? ⟨I, k3, none⟩ = some (.int .i64 (D2[k3]! : Nat)) := HLm.out.kp.cellA (a := ⟨I, k3, none⟩) (fun h => h) (by rw [block_cell HBlk.out]; exact idx_get (by rw [HD2s.out]; exact hkn))
              obtain ⟨cP0, cQ0⟩ := HE.out _ hlt
              obtain ⟨e, he⟩ : ∃ e, e = es[D2[k3]!]'hlt := ⟨_, rfl⟩
              rw [← he] at cP0 cQ0 hde
              have hsz3 := HSzd.out d[k3] (List.getElem_mem hkn3)
              rw [hde] at hsz3
              obtain ⟨P, Q⟩ := e
              have hszP : P.size ≤ 1048576 := hsz3.1
              have hszQ : Q.size ≤ 1048600 := hsz3.2
              have HEd := Lib.hid hde.symm
              have hkwr := HKw.out.trans HLm.out.kp
              have cP := hkwr.cellA (fun h => h) cP0
              have cQ := hkwr.cellA (fun h => h) cQ0
              obtain ⟨ix, hix⟩ : ∃ ix, ix = D2[k3]! := ⟨_, rfl⟩
              rw [← hix] at cI cP0 cQ0 cP cQ hlt
              have hixi : (ix : Int) < (es.length : Int) := by omega
              clear he hde hsz3 hkwr hix
              have cP : wr.cell? ⟨bp, ix, none⟩ = some (.string P) := cP
              have cQ : wr.cell? ⟨ba, ix, none⟩ = some (.string Q) := cQ
              have hstd : Go.Proofs.Qxb6604462aDoor.std d[k3] = stdB P.data.toList := by rw [← HEd.out]; rfl
              cases hst : stdB P.data.toList with
              | true =>
              have HSt : Hid (Go.Proofs.Qxb6604462aDoor.std d[k3] = true) := Lib.hid (hstd.trans hst)
              have HCn := Lib.hid (And.intro (tb_yes hkn3 HSt.out).2 (tb_no (p := fun e => !Go.Proofs.Qxb6604462aDoor.std e) hkn3 (by simp [HSt.out])).2)
              clear hstd
              have hAp := Ap.start HLm.out.s
              have hln := tb_len (p := Go.Proofs.Qxb6604462aDoor.std) HSzd.out k3 (by omega)
              obtain ⟨X0, hX0⟩ : ∃ X, X = tb Go.Proofs.Qxb6604462aDoor.std (d.take k3) := ⟨_, rfl⟩
              rw [← hX0] at hAp hln ⊢
              have HX0 := Lib.hid hX0
              have HA0 := Lib.hid hAp
              have hMs : M ≤ wr.heap.size := by have := HM.out; have := HLm.out.kp.size; omega
              have C27 := zzStandard P wr (by omega)
              rw [hst] at C27
              have HC27 := Lib.hid C27
              clear hX0 hAp C27 hst
              go_wp2_with (first | (go_at_call 27; refine HC27.out.mono ?_; rintro x w4 ⟨rfl, hw⟩; have hw := hw.symm; subst hw) | (at_builtin; refine wpList_append_fresh _ rfl _ _ 51 rfl M 5 i0 (.int .u8 0) 1 1 Tryd.underlying51 hi hz0 hz1 hz2 rfl (by decide) (.slice s1 X0.length c1) X0.length (Lib.byteCells X0) rfl (HA0.out.row.alloc _) ⟨wr.heap.size, 0, none⟩ 1 1 [Value.int .u8 9] rfl rfl (byte_new _ _ _) (by intro u hu; simp at hu; subst hu; rfl) (by unfold maxLen; omega) (by omega) (by simp; omega) ?_))
              intro v4 w4 g1 g2 g3
              have hA1 := HA0.out.step ((Keep.refl _ wr).alloc _) (ys := [9]) rfl rfl g1 g2 g3
              obtain ⟨X1, hX1⟩ : ∃ X, X = X0 ++ [9] := ⟨_, rfl⟩
              have hX1l : X1.length = X0.length + 1 := by rw [hX1]; simp
              rw [← hX1] at hA1
              obtain ⟨q4, c4, hv4⟩ := slice_of_own g1
              subst hv4
              have hk4 : Keep (fun _ => False) w w4 := (HKw.out.trans HLm.out.kp).trans' hA1.kp (fun j hj => Or.inr (by have := (HA0.out.row.lt j hj).1; have := HM.out; have := HKw.out.size; omega))
              have hp4 := hk4.cellA (fun h => h) cP0
              have hq4 := hk4.cellA (fun h => h) cQ0
              have C26 : ∀ W : World, W.heap = w4.heap → W.os = w4.os → W.tape = w4.tape → W.output = w4.output → Calls Tryd.prog 26 #[.slice q4 (X0.length + 1) c4, .string P, .string Q] W fun e w' => ∃ v', e = .returned v' ∧ Ap M (.slice s1 X0.length c1) wr (X1 ++ lineB (P, Q)) v' w' := fun W e1 e2 e3 e4 => by
                have hs : Same w4 W := ⟨e1, e2, e3, e4⟩
                have hr := row_keepK hA1.row (hs.keep (fun _ => False)) (fun _ _ h => h)
                have h1 := appendLine M (.slice q4 (X0.length + 1) c4) X1 P Q W hr (by omega) hszP hszQ (by rw [e1]; have := hA1.kp.size; omega)
                refine h1.mono ?_
                rintro e w' ⟨v', rfl, ha⟩
                exact ⟨v', rfl, (hA1.chain (ha.from (hs.keep _)))⟩
              have HC26 := Lib.hid C26
              have HX1 := Lib.hid hX1
              clear g1 g2 g3 hA1 hX1 C26 HA0 hk4 hX1l
              go_upto_region 32 with fail
              go_cut [12] from 112 to 121 (fun v wx => Ap M (.slice s1 X0.length c1) wr (X1 ++ lineB (P, Q)) v wx)
              case first =>
                go_region_with (go_at_call 26; refine (HC26.out _ ?_ ?_ ?_ ?_).mono ?_; rfl; rfl; rfl; rfl; rintro e1 w1 ⟨v', rfl, hap⟩)
                all_goals
                  go_wp2_with fail
                  go_meet
                  exact hap
              case rest =>
              have hap := hcut
              obtain ⟨p5, c5, hv5⟩ := slice_of_own hap.row
              subst hv5
              obtain ⟨X2, hX2⟩ : ∃ X, X = X1 ++ lineB (P, Q) := ⟨_, rfl⟩
              have hX2l : X2.length ≤ 3000000000 := by
                have := lineS_size (P, Q) hszP hszQ
                rw [Lib.size_eq, lineS_data] at this
                rw [hX2, List.length_append, HX1.out, List.length_append]
                simp only [List.length_cons, List.length_nil]
                omega
              rw [← hX2] at hap ⊢
              have hsz5 := hap.kp.size
              have HAp := Lib.hid hap
              have HX2 := Lib.hid hX2
              clear hap hcut hX2 HC26
              go_wp2_with (at_builtin; refine wpList_append_fresh _ rfl _ _ 51 rfl M 5 i0 (.int .u8 0) 1 1 Tryd.underlying51 hi hz0 hz1 hz2 rfl (by decide) (.slice p5 X2.length c5) X2.length (Lib.byteCells X2) rfl (HAp.out.row.alloc _) ⟨wc.heap.size, 0, none⟩ 1 1 [Value.int .u8 10] rfl rfl (byte_new _ _ _) (by intro u hu; simp at hu; subst hu; rfl) (by unfold maxLen; omega) (by omega) (by simp; omega) ?_)
              intro v6 w6 g1 g2 g3
              have hA3 := HAp.out.step ((Keep.refl _ wc).alloc _) (ys := [10]) rfl rfl g1 g2 g3
              obtain ⟨p6, c6, hv6⟩ := slice_of_own g1
              subst hv6
              have HNew := Lib.hid (HLm.out.std hkn3 HSt.out HM.out (by rw [← HEd.out, ← HX0.out, ← HX1.out, ← HX2.out]; exact hA3))
              clear g1 g2 g3 hA3
              go_wp2
              go_roundg (gk - 1)
              case measure => have := HK3.out; omega
              case rel => exact ⟨k3 + 1, _, _, rfl, rfl, by rw [HCn.out.1]; go_num, by rw [HCn.out.2], by go_num, by have := HK3.out; omega, HNew.out⟩
              | false =>
              have HSt : Hid (Go.Proofs.Qxb6604462aDoor.std d[k3] = false) := Lib.hid (hstd.trans hst)
              have HCn := Lib.hid (And.intro (tb_no hkn3 HSt.out).2 (tb_yes (p := fun e => !Go.Proofs.Qxb6604462aDoor.std e) hkn3 (by simp [HSt.out])).2)
              clear hstd
              have hAp := Ap.start HLm.out.o
              have hln := tb_len (p := (fun e => !Go.Proofs.Qxb6604462aDoor.std e)) HSzd.out k3 (by omega)
              obtain ⟨X0, hX0⟩ : ∃ X, X = tb (fun e => !Go.Proofs.Qxb6604462aDoor.std e) (d.take k3) := ⟨_, rfl⟩
              rw [← hX0] at hAp hln ⊢
              have HX0 := Lib.hid hX0
              have HA0 := Lib.hid hAp
              have hMs : M ≤ wr.heap.size := by have := HM.out; have := HLm.out.kp.size; omega
              have C27 := zzStandard P wr (by omega)
              rw [hst] at C27
              have HC27 := Lib.hid C27
              clear hX0 hAp C27 hst
              go_wp2_with (first | (go_at_call 27; refine HC27.out.mono ?_; rintro x w4 ⟨rfl, hw⟩; have hw := hw.symm; subst hw) | (at_builtin; refine wpList_append_fresh _ rfl _ _ 51 rfl M 5 i0 (.int .u8 0) 1 1 Tryd.underlying51 hi hz0 hz1 hz2 rfl (by decide) (.slice s2 X0.length c2) X0.length (Lib.byteCells X0) rfl (HA0.out.row.alloc _) ⟨wr.heap.size, 0, none⟩ 1 1 [Value.int .u8 9] rfl rfl (byte_new _ _ _) (by intro u hu; simp at hu; subst hu; rfl) (by unfold maxLen; omega) (by omega) (by simp; omega) ?_))
              intro v4 w4 g1 g2 g3
              have hA1 := HA0.out.step ((Keep.refl _ wr).alloc _) (ys := [9]) rfl rfl g1 g2 g3
              obtain ⟨X1, hX1⟩ : ∃ X, X = X0 ++ [9] := ⟨_, rfl⟩
              have hX1l : X1.length = X0.length + 1 := by rw [hX1]; simp
              rw [← hX1] at hA1
              obtain ⟨q4, c4, hv4⟩ := slice_of_own g1
              subst hv4
              have hk4 : Keep (fun _ => False) w w4 := (HKw.out.trans HLm.out.kp).trans' hA1.kp (fun j hj => Or.inr (by have := (HA0.out.row.lt j hj).1; have := HM.out; have := HKw.out.size; omega))
              have hp4 := hk4.cellA (fun h => h) cP0
              have hq4 := hk4.cellA (fun h => h) cQ0
              have C26 : ∀ W : World, W.heap = w4.heap → W.os = w4.os → W.tape = w4.tape → W.output = w4.output → Calls Tryd.prog 26 #[.slice q4 (X0.length + 1) c4, .string P, .string Q] W fun e w' => ∃ v', e = .returned v' ∧ Ap M (.slice s2 X0.length c2) wr (X1 ++ lineB (P, Q)) v' w' := fun W e1 e2 e3 e4 => by
                have hs : Same w4 W := ⟨e1, e2, e3, e4⟩
                have hr := row_keepK hA1.row (hs.keep (fun _ => False)) (fun _ _ h => h)
                have h1 := appendLine M (.slice q4 (X0.length + 1) c4) X1 P Q W hr (by omega) hszP hszQ (by rw [e1]; have := hA1.kp.size; omega)
                refine h1.mono ?_
                rintro e w' ⟨v', rfl, ha⟩
                exact ⟨v', rfl, (hA1.chain (ha.from (hs.keep _)))⟩
              have HC26 := Lib.hid C26
              have HX1 := Lib.hid hX1
              clear g1 g2 g3 hA1 hX1 C26 HA0 hk4 hX1l
              go_upto_region 36 with fail
              go_cut [13] from 130 to 139 (fun v wx => Ap M (.slice s2 X0.length c2) wr (X1 ++ lineB (P, Q)) v wx)
              case first =>
                go_region_with (go_at_call 26; refine (HC26.out _ ?_ ?_ ?_ ?_).mono ?_; rfl; rfl; rfl; rfl; rintro e1 w1 ⟨v', rfl, hap⟩)
                all_goals
                  go_wp2_with fail
                  go_meet
                  exact hap
              case rest =>
              have hap := hcut
              obtain ⟨p5, c5, hv5⟩ := slice_of_own hap.row
              subst hv5
              obtain ⟨X2, hX2⟩ : ∃ X, X = X1 ++ lineB (P, Q) := ⟨_, rfl⟩
              have hX2l : X2.length ≤ 3000000000 := by
                have := lineS_size (P, Q) hszP hszQ
                rw [Lib.size_eq, lineS_data] at this
                rw [hX2, List.length_append, HX1.out, List.length_append]
                simp only [List.length_cons, List.length_nil]
                omega
              rw [← hX2] at hap ⊢
              have hsz5 := hap.kp.size
              have HAp := Lib.hid hap
              have HX2 := Lib.hid hX2
              clear hap hcut hX2 HC26
              go_wp2_with (at_builtin; refine wpList_append_fresh _ rfl _ _ 51 rfl M 5 i0 (.int .u8 0) 1 1 Tryd.underlying51 hi hz0 hz1 hz2 rfl (by decide) (.slice p5 X2.length c5) X2.length (Lib.byteCells X2) rfl (HAp.out.row.alloc _) ⟨wc.heap.size, 0, none⟩ 1 1 [Value.int .u8 10] rfl rfl (byte_new _ _ _) (by intro u hu; simp at hu; subst hu; rfl) (by unfold maxLen; omega) (by omega) (by simp; omega) ?_)
              intro v6 w6 g1 g2 g3
              have hA3 := HAp.out.step ((Keep.refl _ wc).alloc _) (ys := [10]) rfl rfl g1 g2 g3
              obtain ⟨p6, c6, hv6⟩ := slice_of_own g1
              subst hv6
              have HNew := Lib.hid (HLm.out.oth hkn3 HSt.out HM.out (by rw [← HEd.out, ← HX0.out, ← HX1.out, ← HX2.out]; exact hA3))
              clear g1 g2 g3 hA3
              go_wp2
              go_roundg (gk - 1)
              case measure => have := HK3.out; omega
              case rel => exact ⟨k3 + 1, _, _, rfl, rfl, by rw [HCn.out.1], by rw [HCn.out.2]; go_num, by go_num, by have := HK3.out; omega, HNew.out⟩
            · have hki3 : ¬ (k3 : Int) < (es.length : Int) := by omega
              have hke : k3 = es.length := by have := HK3.out; omega
              have htk : d.take k3 = d := by rw [hke, ← HDl.out]; exact List.take_length
              have hS := HLm.out.s
              have hO := HLm.out.o
              have hSn := HLm.out.sn
              have hOn := HLm.out.on
              have hls := tb_len (p := Go.Proofs.Qxb6604462aDoor.std) HSzd.out k3 (by omega)
              have hlo := tb_len (p := fun e => !Go.Proofs.Qxb6604462aDoor.std e) HSzd.out k3 (by omega)
              have hMs : M ≤ wr.heap.size := by have := HM.out; have := HLm.out.kp.size; omega
              have HKf : Hid (Keep (fun _ => False) w wr) := Lib.hid (HKw.out.trans HLm.out.kp)
              rw [htk] at hS hO hSn hOn hls hlo ⊢
              have hsum : fl Go.Proofs.Qxb6604462aDoor.std d + fl (fun e => !Go.Proofs.Qxb6604462aDoor.std e) d = es.length := by rw [← HDl.out]; exact filt_add _ d
              have hdecl : declOf d = import7 ++ [40, 10] ++ tb Go.Proofs.Qxb6604462aDoor.std d ++ (if 0 < fl Go.Proofs.Qxb6604462aDoor.std d ∧ 0 < fl (fun e => !Go.Proofs.Qxb6604462aDoor.std e) d then [10] else []) ++ tb (fun e => !Go.Proofs.Qxb6604462aDoor.std e) d ++ [41, 10] := by
                unfold declOf tb fl
                rw [if_neg (by have := HDl.out; omega), if_neg (by have := HDl.out; omega)]
              have hn1 := tb_nil (p := Go.Proofs.Qxb6604462aDoor.std) (d := d)
              have hn2 := tb_nil (p := fun e => !Go.Proofs.Qxb6604462aDoor.std e) (d := d)
              have hp1 := tb_pos (p := Go.Proofs.Qxb6604462aDoor.std) (d := d)
              have hp2 := tb_pos (p := fun e => !Go.Proofs.Qxb6604462aDoor.std e) (d := d)
              obtain ⟨XS, hXS⟩ : ∃ X, X = tb Go.Proofs.Qxb6604462aDoor.std d := ⟨_, rfl⟩
              obtain ⟨XO, hXO⟩ : ∃ X, X = tb (fun e => !Go.Proofs.Qxb6604462aDoor.std e) d := ⟨_, rfl⟩
              obtain ⟨nS, hnS⟩ : ∃ n, n = fl Go.Proofs.Qxb6604462aDoor.std d := ⟨_, rfl⟩
              obtain ⟨nO, hnO⟩ : ∃ n, n = fl (fun e => !Go.Proofs.Qxb6604462aDoor.std e) d := ⟨_, rfl⟩
              rw [← hXS] at hS hls hdecl hn1 hp1 hSn ⊢
              rw [← hXO] at hO hlo hdecl hn2 hp2 hOn ⊢
              rw [← hnS] at hsum hdecl hn1 hp1 hSn ⊢
              rw [← hnO] at hsum hdecl hn2 hp2 hOn ⊢
              clear hXS hXO hnS hnO hf1 hf2 htk hke HLm HK3 HE HSz HSzd HDat
              obtain ⟨C0, hC0⟩ : ∃ C : List UInt8, C = [105, 109, 112, 111, 114, 116, 32, 40, 10] := ⟨_, rfl⟩
              have HC0 := Lib.hid hC0
              have HC0l : Hid (C0.length = 9) := Lib.hid (by rw [hC0]; rfl)
              have HCl : Hid ((Lib.byteCells C0).length = 9) := Lib.hid (by rw [Lib.byteCells_length]; exact HC0l.out)
              obtain ⟨wA, hwA⟩ : ∃ wA : World, wA = wr.alloc (.cells #[.int .u8 105, .int .u8 109, .int .u8 112, .int .u8 111, .int .u8 114, .int .u8 116, .int .u8 32, .int .u8 40, .int .u8 10] 5 (9, 10)) := ⟨_, rfl⟩
              have hkA : Keep (fun _ => False) wr wA := by rw [hwA]; exact (Keep.refl _ wr).alloc _
              have HHold : Hid (∀ W : World, Keep (fun _ => False) wA W → ∀ j u, (Lib.byteCells C0)[j]? = some u → W.cell? ((⟨wr.heap.size, 0, none⟩ : Addr).add j) = some u) := Lib.hid (fun W hW j u hj => by
                refine hW.cellA (fun h => h) ?_
                rw [hwA, Addr.add_lit, Nat.zero_add, block_cell (heap_alloc_new wr _), ← hj, ← Array.getElem?_toList, hC0]
                rfl)
              have HSrow : Hid (∀ g c, s1 = some g → c1 = c → ∀ W : World, Keep (fun _ => False) wA W → ∀ j u, (Lib.byteCells XS)[j]? = some u → W.cell? (g.add j) = some u) := Lib.hid (fun g c hg _ W hW j u hj => (hkA.trans hW).cellA (fun h => h) (own_cell hS hg j u hj))
              have HOrow : Hid (∀ g c, s2 = some g → c2 = c → ∀ W : World, Keep (fun _ => False) wA W → ∀ j u, (Lib.byteCells XO)[j]? = some u → W.cell? (g.add j) = some u) := Lib.hid (fun g c hg _ W hW j u hj => (hkA.trans hW).cellA (fun h => h) (own_cell hO hg j u hj))
              have hsS : 0 < XS.length → ∃ g, s1 = some g := fun hx => own_some hS hx
              have hsO : 0 < XO.length → ∃ g, s2 = some g := fun hx => own_some hO hx
              have HDecl := Lib.hid hdecl
              have hMA : M ≤ wA.heap.size := Nat.le_trans hMs hkA.size
              have kc : (convert 51 51 (.slice (some ⟨wr.heap.size, 0, none⟩) 9 9)).run Tryd.prog (wr.alloc (.cells #[.int .u8 105, .int .u8 109, .int .u8 112, .int .u8 111, .int .u8 114, .int .u8 116, .int .u8 32, .int .u8 40, .int .u8 10] 5)) = .ok (.slice (some ⟨wr.heap.size, 0, none⟩) 9 9) wA := by rw [hwA]; exact Lib.run_convert_bytes_const (P := Tryd.prog) wr 51 5 #[.int .u8 105, .int .u8 109, .int .u8 112, .int .u8 111, .int .u8 114, .int .u8 116, .int .u8 32, .int .u8 40, .int .u8 10] 9 9 Tryd.underlying51 Tryd.underlying5
              have HwA := Lib.hid hwA
              have HKA := Lib.hid hkA
              clear hC0 hdecl hS hO hwA hkA
              rcases Nat.eq_zero_or_pos nS with hS0 | hS0
              · -- others alone
                have hO0 : 0 < nO := by omega
                have gS : ¬ (0 : Int) < (nS : Int) := by omega
                have hXSe := hn1 hS0
                have hXO := hp2 hO0
                have e1 := hSn hS0
                injection e1 with e1 e2 e3
                subst e1 e3
                rw [hXSe] at HDecl ⊢
                rw [if_neg (by omega)] at HDecl
                obtain ⟨gO, hgO⟩ := hsO hXO
                subst hgO
                have gS' : ¬ 0 < nS := by omega
                have HOr := Lib.hid (HOrow.out gO c2 rfl rfl)
                clear hn1 hn2 hp1 hp2 hSn hOn hS0 hO0 HSrow HOrow e2 hsS hsO
                go_wp2_with (first | (at_builtin; refine wpList_append_nil_arg rfl _ _ 51 rfl 5 i0 Tryd.underlying51 hi ⟨wr.heap.size, 0, none⟩ 9 9 (Nat.le_refl _) rfl rfl ?_) | (at_builtin; refine wpList_append_full _ rfl _ _ 51 rfl M 5 i0 (.int .u8 0) 1 Tryd.underlying51 hi hz0 hz1 hz2 rfl ⟨wr.heap.size, 0, none⟩ 9 (Lib.byteCells C0) rfl HCl.out (HHold.out _ (Keep.refl _ _)) gO XO.length c2 (Lib.byteCells XO) rfl (Lib.byteCells_length _) (HOr.out _ (Keep.refl _ _)) (by omega) (by omega) (by omega) (by omega) ?_))
                intro v1 w1 g1 g2 g3
                have hA1 := Ap.first (base := M) (W := wA) (Keep.refl _ wA) (xs := C0) (n := 9) HC0l.out.symm (ys := XO) rfl rfl g1 g2 g3
                obtain ⟨C1, hC1⟩ : ∃ C, C = C0 ++ XO := ⟨_, rfl⟩
                rw [← hC1] at hA1
                have HA1 := Lib.hid hA1
                have HL1 : Hid (C1.length = 9 + XO.length) := Lib.hid (by rw [hC1, List.length_append, HC0l.out])
                have HC1 := Lib.hid hC1
                obtain ⟨p1, k1, hv⟩ := slice_of_own g1
                subst hv
                have HR1 : Hid (w1.ownsRow M 5 1 (.slice p1 (9 + XO.length) k1) (9 + XO.length) (Lib.byteCells C1)) := Lib.hid (by have := hA1.row; rw [HL1.out] at this; exact this)
                have hs1 := hA1.kp.size
                clear g1 g2 g3 hA1 hC1
                go_wp2_with (at_builtin; refine wpList_append_fresh _ rfl _ _ 51 rfl M 5 i0 (.int .u8 0) 1 1 Tryd.underlying51 hi hz0 hz1 hz2 rfl (by decide) (.slice p1 (9 + XO.length) k1) (9 + XO.length) (Lib.byteCells C1) rfl (HR1.out.alloc _) ⟨w1.heap.size, 0, none⟩ 1 1 [Value.int .u8 41] rfl rfl (byte_new _ _ _) (by intro u hu; simp at hu; subst hu; rfl) (by unfold maxLen; omega) (by omega) (by simp; omega) ?_)
                intro v2 w2 g1 g2 g3
                have hA2 := HA1.out.step ((Keep.refl _ _).alloc _) (ys := [41]) rfl rfl (by rw [HL1.out]; exact g1) g2 g3
                obtain ⟨C2, hC2⟩ : ∃ C, C = C1 ++ [41] := ⟨_, rfl⟩
                rw [← hC2] at hA2
                have HA2 := Lib.hid hA2
                have HL2 : Hid (C2.length = 9 + XO.length + 1) := Lib.hid (by rw [hC2, List.length_append, HL1.out]; rfl)
                have HC2 := Lib.hid hC2
                obtain ⟨p2, k2, hv⟩ := slice_of_own g1
                subst hv
                have HR2 : Hid (w2.ownsRow M 5 1 (.slice p2 (9 + XO.length + 1) k2) (9 + XO.length + 1) (Lib.byteCells C2)) := Lib.hid (by have := hA2.row; rw [HL2.out] at this; exact this)
                have hs2 := hA2.kp.size
                clear g1 g2 g3 hA2 hC2
                go_wp2_with (at_builtin; refine wpList_append_fresh _ rfl _ _ 51 rfl M 5 i0 (.int .u8 0) 1 1 Tryd.underlying51 hi hz0 hz1 hz2 rfl (by decide) (.slice p2 (9 + XO.length + 1) k2) (9 + XO.length + 1) (Lib.byteCells C2) rfl (HR2.out.alloc _) ⟨w2.heap.size, 0, none⟩ 1 1 [Value.int .u8 10] rfl rfl (byte_new _ _ _) (by intro u hu; simp at hu; subst hu; rfl) (by unfold maxLen; omega) (by omega) (by simp; omega) ?_)
                intro v3 w3 g1 g2 g3
                have hA3 := HA2.out.step ((Keep.refl _ _).alloc _) (ys := [10]) rfl rfl (by rw [HL2.out]; exact g1) g2 g3
                obtain ⟨C3, hC3⟩ : ∃ C, C = C2 ++ [10] := ⟨_, rfl⟩
                rw [← hC3] at hA3
                have HA3 := Lib.hid hA3
                have HL3 : Hid (C3.length = 9 + XO.length + 1 + 1) := Lib.hid (by rw [hC3, List.length_append, HL2.out]; rfl)
                have HC3 := Lib.hid hC3
                obtain ⟨p3, k3, hv⟩ := slice_of_own g1
                subst hv
                have HR3 : Hid (w3.ownsRow M 5 1 (.slice p3 (9 + XO.length + 1 + 1) k3) (9 + XO.length + 1 + 1) (Lib.byteCells C3)) := Lib.hid (by have := hA3.row; rw [HL3.out] at this; exact this)
                have hs3 := hA3.kp.size
                clear g1 g2 g3 hA3 hC3
                have hcv := conv_own HR3.out (by rw [HL3.out]; omega)
                go_wp2
                go_ret
                refine ⟨_, d, rfl, HPerm.out, HSort.out, ?_, (HKf.out.trans HKA.out).trans HA3.out.kp.nil⟩
                rw [HDecl.out]
                show C3.toArray.toList = _
                rw [List.toList_toArray, HC3.out, HC2.out, HC1.out, HC0.out]
                simp [import7]
              · have gS : (0 : Int) < (nS : Int) := by omega
                have gS' : 0 < nS := hS0
                have hXS := hp1 hS0
                obtain ⟨gS1, hgS⟩ := hsS hXS
                subst hgS
                have HSr := Lib.hid (HSrow.out gS1 c1 rfl rfl)
                rcases Nat.eq_zero_or_pos nO with hO0 | hO0
                · have gO : ¬ (0 : Int) < (nO : Int) := by omega
                  have gO' : ¬ 0 < nO := by omega
                  have hXOe := hn2 hO0
                  have e1 := hOn hO0
                  injection e1 with e1 e2 e3
                  subst e1 e3
                  rw [hXOe] at HDecl ⊢
                  rw [if_neg (by omega)] at HDecl
                  clear hn1 hn2 hp1 hp2 hSn hOn hS0 hO0 HSrow HOrow e2 hsS hsO
                  go_wp2_with (at_builtin; refine wpList_append_full _ rfl _ _ 51 rfl M 5 i0 (.int .u8 0) 1 Tryd.underlying51 hi hz0 hz1 hz2 rfl ⟨wr.heap.size, 0, none⟩ 9 (Lib.byteCells C0) rfl HCl.out (HHold.out _ (Keep.refl _ _)) gS1 XS.length c1 (Lib.byteCells XS) rfl (Lib.byteCells_length _) (HSr.out _ (Keep.refl _ _)) (by omega) (by omega) (by omega) (by omega) ?_)
                  intro v1 w1 g1 g2 g3
                  have hA1 := Ap.first (base := M) (W := wA) (Keep.refl _ wA) (xs := C0) (n := 9) HC0l.out.symm (ys := XS) rfl rfl g1 g2 g3
                  obtain ⟨C1, hC1⟩ : ∃ C, C = C0 ++ XS := ⟨_, rfl⟩
                  rw [← hC1] at hA1
                  have HA1 := Lib.hid hA1
                  have HL1 : Hid (C1.length = 9 + XS.length) := Lib.hid (by rw [hC1, List.length_append, HC0l.out])
                  have HC1 := Lib.hid hC1
                  obtain ⟨p1, k1, hv⟩ := slice_of_own g1
                  subst hv
                  have HR1 : Hid (w1.ownsRow M 5 1 (.slice p1 (9 + XS.length) k1) (9 + XS.length) (Lib.byteCells C1)) := Lib.hid (by have := hA1.row; rw [HL1.out] at this; exact this)
                  have hs1 := hA1.kp.size
                  clear g1 g2 g3 hA1 hC1
                  go_wp2_with (first | (at_builtin; refine wpList_append_own_none rfl _ _ 51 rfl M 5 i0 1 Tryd.underlying51 hi _ _ _ rfl HR1.out rfl ?_) | (at_builtin; refine wpList_append_fresh _ rfl _ _ 51 rfl M 5 i0 (.int .u8 0) 1 1 Tryd.underlying51 hi hz0 hz1 hz2 rfl (by decide) (.slice p1 (9 + XS.length) k1) (9 + XS.length) (Lib.byteCells C1) rfl (HR1.out.alloc _) ⟨w1.heap.size, 0, none⟩ 1 1 [Value.int .u8 41] rfl rfl (byte_new _ _ _) (by intro u hu; simp at hu; subst hu; rfl) (by unfold maxLen; omega) (by omega) (by simp; omega) ?_))
                  intro v2 w2 g1 g2 g3
                  have hA2 := HA1.out.step ((Keep.refl _ _).alloc _) (ys := [41]) rfl rfl (by rw [HL1.out]; exact g1) g2 g3
                  obtain ⟨C2, hC2⟩ : ∃ C, C = C1 ++ [41] := ⟨_, rfl⟩
                  rw [← hC2] at hA2
                  have HA2 := Lib.hid hA2
                  have HL2 : Hid (C2.length = 9 + XS.length + 1) := Lib.hid (by rw [hC2, List.length_append, HL1.out]; rfl)
                  have HC2 := Lib.hid hC2
                  obtain ⟨p2, k2, hv⟩ := slice_of_own g1
                  subst hv
                  have HR2 : Hid (w2.ownsRow M 5 1 (.slice p2 (9 + XS.length + 1) k2) (9 + XS.length + 1) (Lib.byteCells C2)) := Lib.hid (by have := hA2.row; rw [HL2.out] at this; exact this)
                  have hs2 := hA2.kp.size
                  clear g1 g2 g3 hA2 hC2
                  go_wp2_with (at_builtin; refine wpList_append_fresh _ rfl _ _ 51 rfl M 5 i0 (.int .u8 0) 1 1 Tryd.underlying51 hi hz0 hz1 hz2 rfl (by decide) (.slice p2 (9 + XS.length + 1) k2) (9 + XS.length + 1) (Lib.byteCells C2) rfl (HR2.out.alloc _) ⟨w2.heap.size, 0, none⟩ 1 1 [Value.int .u8 10] rfl rfl (byte_new _ _ _) (by intro u hu; simp at hu; subst hu; rfl) (by unfold maxLen; omega) (by omega) (by simp; omega) ?_)
                  intro v3 w3 g1 g2 g3
                  have hA3 := HA2.out.step ((Keep.refl _ _).alloc _) (ys := [10]) rfl rfl (by rw [HL2.out]; exact g1) g2 g3
                  obtain ⟨C3, hC3⟩ : ∃ C, C = C2 ++ [10] := ⟨_, rfl⟩
                  rw [← hC3] at hA3
                  have HA3 := Lib.hid hA3
                  have HL3 : Hid (C3.length = 9 + XS.length + 1 + 1) := Lib.hid (by rw [hC3, List.length_append, HL2.out]; rfl)
                  have HC3 := Lib.hid hC3
                  obtain ⟨p3, k3, hv⟩ := slice_of_own g1
                  subst hv
                  have HR3 : Hid (w3.ownsRow M 5 1 (.slice p3 (9 + XS.length + 1 + 1) k3) (9 + XS.length + 1 + 1) (Lib.byteCells C3)) := Lib.hid (by have := hA3.row; rw [HL3.out] at this; exact this)
                  have hs3 := hA3.kp.size
                  clear g1 g2 g3 hA3 hC3
                  have hcv := conv_own HR3.out (by rw [HL3.out]; omega)
                  go_wp2
                  go_ret
                  refine ⟨_, d, rfl, HPerm.out, HSort.out, ?_, (HKf.out.trans HKA.out).trans HA3.out.kp.nil⟩
                  rw [HDecl.out]
                  show C3.toArray.toList = _
                  rw [List.toList_toArray, HC3.out, HC2.out, HC1.out, HC0.out]
                  simp [import7]
                · have gO : (0 : Int) < (nO : Int) := by omega
                  have gO' : 0 < nO := hO0
                  have hXO := hp2 hO0
                  obtain ⟨gO1, hgO⟩ := hsO hXO
                  subst hgO
                  have HOr := Lib.hid (HOrow.out gO1 c2 rfl rfl)
                  rw [if_pos ⟨hS0, hO0⟩] at HDecl
                  clear hn1 hn2 hp1 hp2 hSn hOn hS0 hO0 HSrow HOrow hsS hsO
                  go_wp2_with (at_builtin; refine wpList_append_full _ rfl _ _ 51 rfl M 5 i0 (.int .u8 0) 1 Tryd.underlying51 hi hz0 hz1 hz2 rfl ⟨wr.heap.size, 0, none⟩ 9 (Lib.byteCells C0) rfl HCl.out (HHold.out _ (Keep.refl _ _)) gS1 XS.length c1 (Lib.byteCells XS) rfl (Lib.byteCells_length _) (HSr.out _ (Keep.refl _ _)) (by omega) (by omega) (by omega) (by omega) ?_)
                  intro v1 w1 g1 g2 g3
                  have hA1 := Ap.first (base := M) (W := wA) (Keep.refl _ wA) (xs := C0) (n := 9) HC0l.out.symm (ys := XS) rfl rfl g1 g2 g3
                  obtain ⟨C1, hC1⟩ : ∃ C, C = C0 ++ XS := ⟨_, rfl⟩
                  rw [← hC1] at hA1
                  have HA1 := Lib.hid hA1
                  have HL1 : Hid (C1.length = 9 + XS.length) := Lib.hid (by rw [hC1, List.length_append, HC0l.out])
                  have HC1 := Lib.hid hC1
                  obtain ⟨p1, k1, hv⟩ := slice_of_own g1
                  subst hv
                  have HR1 : Hid (w1.ownsRow M 5 1 (.slice p1 (9 + XS.length) k1) (9 + XS.length) (Lib.byteCells C1)) := Lib.hid (by have := hA1.row; rw [HL1.out] at this; exact this)
                  have hs1 := hA1.kp.size
                  clear g1 g2 g3 hA1 hC1
                  go_wp2_with (at_builtin; refine wpList_append_fresh _ rfl _ _ 51 rfl M 5 i0 (.int .u8 0) 1 1 Tryd.underlying51 hi hz0 hz1 hz2 rfl (by decide) (.slice p1 (9 + XS.length) k1) (9 + XS.length) (Lib.byteCells C1) rfl (HR1.out.alloc _) ⟨w1.heap.size, 0, none⟩ 1 1 [Value.int .u8 10] rfl rfl (byte_new _ _ _) (by intro u hu; simp at hu; subst hu; rfl) (by unfold maxLen; omega) (by omega) (by simp; omega) ?_)
                  intro v2 w2 g1 g2 g3
                  have hA2 := HA1.out.step ((Keep.refl _ _).alloc _) (ys := [10]) rfl rfl (by rw [HL1.out]; exact g1) g2 g3
                  obtain ⟨C2, hC2⟩ : ∃ C, C = C1 ++ [10] := ⟨_, rfl⟩
                  rw [← hC2] at hA2
                  have HA2 := Lib.hid hA2
                  have HL2 : Hid (C2.length = 9 + XS.length + 1) := Lib.hid (by rw [hC2, List.length_append, HL1.out]; rfl)
                  have HC2 := Lib.hid hC2
                  obtain ⟨p2, k2, hv⟩ := slice_of_own g1
                  subst hv
                  have HR2 : Hid (w2.ownsRow M 5 1 (.slice p2 (9 + XS.length + 1) k2) (9 + XS.length + 1) (Lib.byteCells C2)) := Lib.hid (by have := hA2.row; rw [HL2.out] at this; exact this)
                  have hs2 := hA2.kp.size
                  clear g1 g2 g3 hA2 hC2
                  go_wp2_with (at_builtin; refine wpList_append_fresh _ rfl _ _ 51 rfl M 5 i0 (.int .u8 0) 1 1 Tryd.underlying51 hi hz0 hz1 hz2 rfl (by decide) (.slice p2 (9 + XS.length + 1) k2) (9 + XS.length + 1) (Lib.byteCells C2) rfl HR2.out gO1 XO.length c2 (Lib.byteCells XO) rfl (by rw [Lib.byteCells_length, Nat.mul_one]) (HOr.out _ HA2.out.kp.nil) (Lib.byteCells_one _) (by unfold maxLen; omega) (by omega) (by omega) ?_)
                  intro v3 w3 g1 g2 g3
                  have hA3 := HA2.out.step (Keep.refl _ _) (ys := XO) rfl rfl (by rw [HL2.out]; exact g1) g2 g3
                  obtain ⟨C3, hC3⟩ : ∃ C, C = C2 ++ XO := ⟨_, rfl⟩
                  rw [← hC3] at hA3
                  have HA3 := Lib.hid hA3
                  have HL3 : Hid (C3.length = 9 + XS.length + 1 + XO.length) := Lib.hid (by rw [hC3, List.length_append, HL2.out])
                  have HC3 := Lib.hid hC3
                  obtain ⟨p3, k3, hv⟩ := slice_of_own g1
                  subst hv
                  have HR3 : Hid (w3.ownsRow M 5 1 (.slice p3 (9 + XS.length + 1 + XO.length) k3) (9 + XS.length + 1 + XO.length) (Lib.byteCells C3)) := Lib.hid (by have := hA3.row; rw [HL3.out] at this; exact this)
                  have hs3 := hA3.kp.size
                  clear g1 g2 g3 hA3 hC3
                  go_wp2_with (at_builtin; refine wpList_append_fresh _ rfl _ _ 51 rfl M 5 i0 (.int .u8 0) 1 1 Tryd.underlying51 hi hz0 hz1 hz2 rfl (by decide) (.slice p3 (9 + XS.length + 1 + XO.length) k3) (9 + XS.length + 1 + XO.length) (Lib.byteCells C3) rfl (HR3.out.alloc _) ⟨w3.heap.size, 0, none⟩ 1 1 [Value.int .u8 41] rfl rfl (byte_new _ _ _) (by intro u hu; simp at hu; subst hu; rfl) (by unfold maxLen; omega) (by omega) (by simp; omega) ?_)
                  intro v4 w4 g1 g2 g3
                  have hA4 := HA3.out.step ((Keep.refl _ _).alloc _) (ys := [41]) rfl rfl (by rw [HL3.out]; exact g1) g2 g3
                  obtain ⟨C4, hC4⟩ : ∃ C, C = C3 ++ [41] := ⟨_, rfl⟩
                  rw [← hC4] at hA4
                  have HA4 := Lib.hid hA4
                  have HL4 : Hid (C4.length = 9 + XS.length + 1 + XO.length + 1) := Lib.hid (by rw [hC4, List.length_append, HL3.out]; rfl)
                  have HC4 := Lib.hid hC4
                  obtain ⟨p4, k4, hv⟩ := slice_of_own g1
                  subst hv
                  have HR4 : Hid (w4.ownsRow M 5 1 (.slice p4 (9 + XS.length + 1 + XO.length + 1) k4) (9 + XS.length + 1 + XO.length + 1) (Lib.byteCells C4)) := Lib.hid (by have := hA4.row; rw [HL4.out] at this; exact this)
                  have hs4 := hA4.kp.size
                  clear g1 g2 g3 hA4 hC4
                  go_wp2_with (at_builtin; refine wpList_append_fresh _ rfl _ _ 51 rfl M 5 i0 (.int .u8 0) 1 1 Tryd.underlying51 hi hz0 hz1 hz2 rfl (by decide) (.slice p4 (9 + XS.length + 1 + XO.length + 1) k4) (9 + XS.length + 1 + XO.length + 1) (Lib.byteCells C4) rfl (HR4.out.alloc _) ⟨w4.heap.size, 0, none⟩ 1 1 [Value.int .u8 10] rfl rfl (byte_new _ _ _) (by intro u hu; simp at hu; subst hu; rfl) (by unfold maxLen; omega) (by omega) (by simp; omega) ?_)
                  intro v5 w5 g1 g2 g3
                  have hA5 := HA4.out.step ((Keep.refl _ _).alloc _) (ys := [10]) rfl rfl (by rw [HL4.out]; exact g1) g2 g3
                  obtain ⟨C5, hC5⟩ : ∃ C, C = C4 ++ [10] := ⟨_, rfl⟩
                  rw [← hC5] at hA5
                  have HA5 := Lib.hid hA5
                  have HL5 : Hid (C5.length = 9 + XS.length + 1 + XO.length + 1 + 1) := Lib.hid (by rw [hC5, List.length_append, HL4.out]; rfl)
                  have HC5 := Lib.hid hC5
                  obtain ⟨p5, k5, hv⟩ := slice_of_own g1
                  subst hv
                  have HR5 : Hid (w5.ownsRow M 5 1 (.slice p5 (9 + XS.length + 1 + XO.length + 1 + 1) k5) (9 + XS.length + 1 + XO.length + 1 + 1) (Lib.byteCells C5)) := Lib.hid (by have := hA5.row; rw [HL5.out] at this; exact this)
                  have hs5 := hA5.kp.size
                  clear g1 g2 g3 hA5 hC5
                  have hcv := conv_own HR5.out (by rw [HL5.out]; omega)
                  go_wp2
                  go_ret
                  refine ⟨_, d, rfl, HPerm.out, HSort.out, ?_, (HKf.out.trans HKA.out).trans HA5.out.kp.nil⟩
                  rw [HDecl.out]
                  show C5.toArray.toList = _
                  rw [List.toList_toArray, HC5.out, HC4.out, HC3.out, HC2.out, HC1.out, HC0.out]
                  simp [import7]
end Go.Proofs.Qxb6604462aDoor
