/-
  seat b6604462aD: (*Scope).ImportDecl, walked.
-/
import Derived.Test.Qxb6604462aDoorConcat
import Derived.Lib.LaidPrint
import Derived.Lib.LaidU8
namespace Go.Proofs.Qxb6604462aDoor
open Go Go.RowKit

/-- A line as a string. -/
def lineS (e : Ent) : ByteArray := ⟨(lineB e).toArray⟩
theorem lineS_data (e : Ent) : (lineS e).data.toList = lineB e := by simp [lineS]
theorem lineS_size (e : Ent) (h1 : e.1.size ≤ 1048576) (h2 : e.2.size ≤ 1048600) : (lineS e).size ≤ 2100000 := by
  rw [Lib.size_eq, lineS_data]
  unfold lineB
  split <;> simp <;> omega

theorem line_bare {q : ByteArray} {e : Ent} (hq : q.data.toList = 34 :: (e.1.data.toList ++ [34])) (h : e.2 = ⟨#[]⟩) : q = lineS e := by
  apply str_eq
  rw [lineS_data, hq]
  unfold lineB
  rw [h]
  simp
theorem line_alias {q : ByteArray} {e : Ent} (hq : q.data.toList = 34 :: (e.1.data.toList ++ [34])) (h : e.2 ≠ ⟨#[]⟩) : (e.2 ++ (⟨#[32]⟩ : ByteArray)) ++ q = lineS e := by
  apply str_eq
  rw [lineS_data]
  unfold lineB
  rw [if_neg (fun he => h (str_eq (by simpa using he)))]
  simp [hq]

/-- The lines of one group among the first. -/
def grp (p : Ent → Bool) (d : List Ent) : List ByteArray := (d.filter p).map lineS
theorem grp_length (p : Ent → Bool) (d : List Ent) : (grp p d).length ≤ d.length := by
  unfold grp
  rw [List.length_map]
  exact List.length_filter_le _ _
theorem grp_yes {p : Ent → Bool} {d : List Ent} {k : Nat} (hk : k < d.length) (h : p d[k] = true) : grp p (d.take (k + 1)) = grp p (d.take k) ++ [lineS d[k]] := by
  unfold grp
  rw [← List.take_append_getElem hk, List.filter_append, List.map_append]
  congr 1
  simp [h]
theorem grp_no {p : Ent → Bool} {d : List Ent} {k : Nat} (hk : k < d.length) (h : p d[k] = false) : grp p (d.take (k + 1)) = grp p (d.take k) := by
  unfold grp
  rw [← List.take_append_getElem hk, List.filter_append, List.map_append, show List.filter p [d[k]] = [] by simp [h], List.map_nil, List.append_nil]

theorem Tabs.below {w w' : World} (h : Tabs w) (hb : Below w.heap.size w w') : Tabs w' :=
  ⟨Go.Joins.tab_stays (g := (Tryd.prog.globalNamed "internal/strconv.uint64pow10").getD 0) (by kernel_rfl) h.pow hb (Nat.le_refl _), printTabs_below h.prt hb, Utf8Tabs_below h.utf hb⟩

theorem join25 {w : World} {b n : Nat} {v : Value} {zs : List ByteArray} (sep : ByteArray) (h : w.ownsRow b 9 1 v n (strs zs)) (hl : zs.length ≤ 2000) (hlen : (Lib.join (zs.map (·.data.toList)) sep.data.toList).length ≤ 140737488355328) :
    Calls Tryd.prog 25 #[v, .string sep] w fun e w' => e = .returned (.string ⟨(Lib.join (zs.map (·.data.toList)) sep.data.toList).toArray⟩) ∧ Below w.heap.size w w' := by
  have hn : n = zs.length := by have := h.1; simp [strs] at this; omega
  subst hn
  rcases h.2 with ⟨rfl, h0⟩ | ⟨g, cap, cur, rfl, _, hg, hnc, _, _, htake⟩
  · have hz : zs = [] := List.length_eq_zero_iff.1 h0
    subst hz
    refine (Tryd.strings_Join_none none 0 sep w).mono ?_
    rintro e w' ⟨rfl, rfl⟩
    exact ⟨rfl, Below.refl _ _⟩
  · exact Tryd.strings_Join g 0 cap zs sep w (fun j x hj => by
      have hj2 : j < zs.length := (List.getElem?_eq_some_iff.1 hj).1
      rw [block_cell hg, Nat.zero_add]
      have h1 : (cur.toList.take (zs.length * 1))[j]? = some (.string x) := by
        rw [htake]
        simp only [strs, List.getElem?_map, hj]
        rfl
      rw [List.getElem?_take_of_lt (by omega), Array.getElem?_toList] at h1
      exact h1) (block_lt hg) (by omega) hnc hlen

theorem join_len (sep : List UInt8) (m : Nat) : ∀ A : List (List UInt8), (∀ a ∈ A, a.length ≤ m) → (Lib.join A sep).length ≤ A.length * (m + sep.length)
  | [], _ => by simp [Lib.join_nil]
  | [a], h => by
    have := h a (by simp)
    simp [Lib.join_one]
    omega
  | a :: b :: A, h => by
    have h1 := h a (by simp)
    have ih := join_len sep m (b :: A) (fun x hx => h x (by simp [hx]))
    have e : Lib.join (a :: b :: A) sep = a ++ sep ++ Lib.join (b :: A) sep := by simp [Lib.join, List.intercalate]
    rw [e]
    simp only [List.length_append, List.length_cons, Nat.add_mul] at *
    omega

def DeclPost (sp : List Ent) (w : World) (e : Ending) (w' : World) : Prop := ∃ (X : ByteArray) (d : List Ent), e = .returned (.string X) ∧ d.Perm sp ∧ d.Pairwise (fun x y => bltP y x = false) ∧ X.data.toList = declOf d ∧ Keep (fun _ => False) w w'

/-- The loop over the sorted imports: k are laid. -/
structure Lp (M : Nat) (d : List Ent) (k : Nat) (sv ov : Value) (w2 w : World) : Prop where
  s : w.ownsRow M 9 1 sv (grp std (d.take k)).length (strs (grp std (d.take k)))
  o : w.ownsRow M 9 1 ov (grp (fun e => !std e) (d.take k)).length (strs (grp (fun e => !std e) (d.take k)))
  ap : ∀ j, sv.ownBlock = some j → ov.ownBlock ≠ some j
  kp : Keep (fun _ => False) w2 w

theorem Lp.std {M : Nat} {d : List Ent} {k : Nat} {sv ov v1 : Value} {w2 w W W1 : World} (h : Lp M d k sv ov w2 w) (hk : k < d.length) (hs : Go.Proofs.Qxb6604462aDoor.std d[k] = true) (hM : M = w2.heap.size) (hW : Keep (fun _ => False) w W)
    (h1 : W1.ownsRow M 9 1 v1 ((grp Go.Proofs.Qxb6604462aDoor.std (d.take k)).length + 1) (strs (grp Go.Proofs.Qxb6604462aDoor.std (d.take k)) ++ [.string (lineS d[k])])) (hg : W.grownBy W1 sv.ownBlock) (hf : Fresh W sv v1) : Lp M d (k + 1) v1 ov w2 W1 := by
  refine ⟨?_, ?_, ?_, ?_⟩
  · rw [grp_yes hk hs]
    simpa [strs] using h1
  · rw [grp_no (p := fun e => !Go.Proofs.Qxb6604462aDoor.std e) hk (by simp [hs])]
    exact row_keepK (row_keepK h.o hW (fun _ _ h => h)) (keep_grown hg) (fun j hj hs => h.ap j hs hj)
  · intro j hj hoj
    rcases hf with hf | hf
    · exact h.ap j (hf ▸ hj) hoj
    · have h1 := hf j hj
      have h2 := (h.o.lt j hoj).2
      have h3 := hW.size
      omega
  · exact (h.kp.trans hW).trans' (keep_grown hg) (fun j hj => Or.inr (by have := (h.s.lt j hj).1; omega))

theorem Lp.oth {M : Nat} {d : List Ent} {k : Nat} {sv ov v1 : Value} {w2 w W W1 : World} (h : Lp M d k sv ov w2 w) (hk : k < d.length) (hs : Go.Proofs.Qxb6604462aDoor.std d[k] = false) (hM : M = w2.heap.size) (hW : Keep (fun _ => False) w W)
    (h1 : W1.ownsRow M 9 1 v1 ((grp (fun e => !Go.Proofs.Qxb6604462aDoor.std e) (d.take k)).length + 1) (strs (grp (fun e => !Go.Proofs.Qxb6604462aDoor.std e) (d.take k)) ++ [.string (lineS d[k])])) (hg : W.grownBy W1 ov.ownBlock) (hf : Fresh W ov v1) : Lp M d (k + 1) sv v1 w2 W1 := by
  refine ⟨?_, ?_, ?_, ?_⟩
  · rw [grp_no hk hs]
    exact row_keepK (row_keepK h.s hW (fun _ _ h => h)) (keep_grown hg) (fun j hj hs => h.ap j hj hs)
  · rw [grp_yes (p := fun e => !Go.Proofs.Qxb6604462aDoor.std e) hk (by simp [hs])]
    simpa [strs] using h1
  · intro j hj hoj
    rcases hf with hf | hf
    · exact h.ap j hj (hf ▸ hoj)
    · have h1 := hf j hoj
      have h2 := (h.s.lt j hj).2
      have h3 := hW.size
      omega
  · exact (h.kp.trans hW).trans' (keep_grown hg) (fun j hj => Or.inr (by have := (h.o.lt j hj).1; omega))

theorem grp_small {sp d : List Ent} (hsz : ∀ e ∈ sp, e.1.size ≤ 1048576 ∧ e.2.size ≤ 1048600) (hp : d.Perm sp) (p : Ent → Bool) : ∀ a ∈ (grp p d).map (·.data.toList), a.length ≤ 2100000 := fun a ha => by
  obtain ⟨x, hx, rfl⟩ := List.mem_map.1 ha
  obtain ⟨e, he, rfl⟩ := List.mem_map.1 hx
  have := hsz e (hp.mem_iff.1 (List.mem_filter.1 he).1)
  rw [← Lib.size_eq]
  exact lineS_size e this.1 this.2

theorem filt_add (p : Ent → Bool) : ∀ d : List Ent, (d.filter p).length + (d.filter (fun e => !p e)).length = d.length
  | [] => rfl
  | e :: d => by
    have ih := filt_add p d
    cases hp : p e <;> simp [hp] <;> omega

/-- What the block reads as, from the groups' lines. -/
theorem decl_of (d : List Ent) : (d.length = 1 → ∃ L : ByteArray, grp std d ++ grp (fun e => !std e) d = [L] ∧ import7 ++ L.data.toList ++ [10] = declOf d ∧ True) ∧
    (1 < d.length → import7 ++ [40, 10, 9] ++ (Lib.join ((grp std d).map (·.data.toList)) [10, 9] ++ (if 0 < (grp std d).length ∧ 0 < (grp (fun e => !std e) d).length then [10, 10, 9] else [])) ++ Lib.join ((grp (fun e => !std e) d).map (·.data.toList)) [10, 9] ++ [10, 41, 10] = declOf d) := by
  have hm : ∀ p : Ent → Bool, (grp p d).map (·.data.toList) = (d.filter p).map lineB := fun p => by
    unfold grp
    rw [List.map_map]
    exact List.map_congr_left (fun e _ => lineS_data e)
  have hl : ∀ p : Ent → Bool, (grp p d).length = (d.filter p).length := fun p => by unfold grp; rw [List.length_map]
  constructor
  · intro h1
    obtain ⟨e, rfl⟩ := List.length_eq_one_iff.1 h1
    refine ⟨lineS e, ?_, ?_, trivial⟩
    · unfold grp
      cases hs : std e <;> simp [hs]
    · rw [lineS_data]
      simp [declOf]
  · intro h1
    have hd : declOf d = import7 ++ [40, 10] ++ tabbed ((d.filter std).map lineB) ++ (if 0 < (d.filter std).length ∧ 0 < (d.filter (fun e => !std e)).length then [10] else []) ++ tabbed ((d.filter (fun e => !std e)).map lineB) ++ [41, 10] := by
      unfold declOf
      rw [if_neg (by omega), if_neg (by omega)]
    rw [hd, hm, hm, hl, hl]
    have hpos : 0 < ((d.filter std).map lineB).length ∨ 0 < ((d.filter (fun e => !std e)).map lineB).length := by
      rw [List.length_map, List.length_map]
      have : (d.filter std).length + (d.filter (fun e => !std e)).length = d.length := filt_add std d
      omega
    have h2 := decl_two ((d.filter std).map lineB) ((d.filter (fun e => !std e)).map lineB) hpos
    rw [List.length_map, List.length_map] at h2
    exact h2

set_option maxRecDepth 100000 in
set_option maxHeartbeats 8000000 in
theorem importDecl (N S : Nat) (sp : List Ent) (iv : Value) (w : World) (hc : w.cell? ⟨S, 2, none⟩ = some iv) (h : w.ownsRow N 41 2 iv sp.length (pairCells sp)) (hl : sp.length ≤ 1000) (hsz : ∀ e ∈ sp, e.1.size ≤ 1048576 ∧ e.2.size ≤ 1048600)
    (hpl : ∀ e ∈ sp, ∀ b ∈ e.1.data.toList, plainB b) (htab : Tabs w) :
    Calls Tryd.prog 12 #[.pointer (some ⟨S, 0, none⟩)] w fun e w' => DeclPost sp w e w' := by
  obtain ⟨ip, ic, hiv⟩ := slice_of_own h
  subst hiv
  rcases Nat.eq_zero_or_pos sp.length with h0 | hpos
  · have hsp : sp = [] := List.length_eq_zero_iff.1 h0
    subst hsp
    clear h hsz hpl htab
    go_enter Tryd.func12, Tryd.ntmps12
    go_wp2
    go_ret
    exact ⟨⟨#[]⟩, [], rfl, List.Perm.refl _, List.Pairwise.nil, rfl, Keep.refl _ _⟩
  have hne : ((sp.length : Int) == 0) = false := beq_no (by omega)
  have C18 := clone18 N sp _ w hpos (by omega) h
  have HC18 := Lib.hid C18
  have HSz := Lib.hid hsz
  have HPl := Lib.hid hpl
  have HTab := Lib.hid htab
  clear C18 h hsz hpl htab
  obtain ⟨i0, hi, hz0, hz1, hz2⟩ := infoStr
  go_enter Tryd.func12, Tryd.ntmps12
  go_wp2_with (go_at_call 18; refine HC18.out.mono ?_; rintro x w1 ⟨g, cap, cur, rfl, hgb, hg, htk, hk1⟩; refine Hid.out ?_)
  refine Lib.hid ?_
  have C19 := sort19 sp g cap cur w1 (by omega) hg htk
  have HC19 := Lib.hid C19
  have HK1 := Lib.hid hk1
  clear C19 hg htk hk1 HC18
  go_wp2_with (go_at_call 19; refine HC19.out.mono ?_; rintro x w2 ⟨rfl, d, hperm, hsort, hcells, hk2⟩; refine Hid.out ?_)
  refine Lib.hid ?_
  have hlen : d.length = sp.length := hperm.length_eq
  have hkw : Keep (fun _ => False) w w2 := HK1.out.trans' hk2 (fun j hj => Or.inr (by omega))
  rw [← hlen] at hne hpos hl ⊢
  have HPerm := Lib.hid hperm
  have HSort := Lib.hid hsort
  have HCells := Lib.hid hcells
  have HKw := Lib.hid hkw
  obtain ⟨M, hM⟩ : ∃ M, M = w2.heap.size := ⟨_, rfl⟩
  have HM := Lib.hid hM
  clear hperm hsort hcells hkw hk2 hM hlen HC19 HK1
  go_wp2_with fail
  go_loopg [4, 5, 25] d.length (fun g x4 x5 i wx => ∃ (k : Nat) (sv ov : Value), x4 = sv ∧ x5 = ov ∧ i = .int .i64 k ∧ k + g = d.length ∧ Lp M d k sv ov w2 wx)
  case atStart => exact ⟨0, _, _, rfl, rfl, rfl, by omega, ⟨World.ownsRow_nil _ _ _ _, World.ownsRow_nil _ _ _ _, (fun j hj => by cases hj), Keep.refl _ _⟩⟩
  case round =>
    obtain ⟨k, sv, ov, rfl, rfl, rfl, hk, hlp⟩ := hrel
    have hgs := grp_length Go.Proofs.Qxb6604462aDoor.std (d.take k)
    have hgo := grp_length (fun e => !Go.Proofs.Qxb6604462aDoor.std e) (d.take k)
    rw [List.length_take] at hgs hgo
    obtain ⟨s1, c1, hs1⟩ := slice_of_own hlp.s
    obtain ⟨s2, c2, hs2⟩ := slice_of_own hlp.o
    subst hs1 hs2
    have HK := Lib.hid hk
    have HLp := Lib.hid hlp
    clear hk hlp
    by_cases hkn : k < d.length
    · have hki : (k : Int) < (d.length : Int) := by omega
      obtain ⟨hc1, hc2⟩ := HCells.out k hkn
      have hmem : d[k] ∈ sp := HPerm.out.mem_iff.1 (List.getElem_mem hkn)
      have hsz := HSz.out _ hmem
      have hpl := HPl.out _ hmem
      obtain ⟨e, he⟩ : ∃ e, e = d[k] := ⟨_, rfl⟩
      rw [← he] at hc1 hc2 hsz hpl
      have HE := Lib.hid he
      clear he hmem
      obtain ⟨P, Q⟩ := e
      have hc1' : wr.cell? ⟨g, k * 2, none⟩ = some (.string P) := HLp.out.kp.cellA (fun h => h) hc1
      have hc2' : wr.cell? ⟨g, k * 2 + 1, none⟩ = some (.string Q) := HLp.out.kp.cellA (fun h => h) hc2
      have hszP : P.size ≤ 1048576 := hsz.1
      have hszQ : Q.size ≤ 1048600 := hsz.2
      have hkA : Keep (fun _ => False) w (wr.alloc (.cells #[.string P, .string Q] 41)) := (HKw.out.trans HLp.out.kp).alloc _
      have htA := HTab.out.below (hkA.below (Nat.le_refl _) (fun _ h => h.elim))
      have CQ := Tryd.strconv_Quote Lib.goPrintTabs P (wr.alloc (.cells #[.string P, .string Q] 41)) (by omega) htA.prt htA.utf
      have hqd := quote_plain Lib.goPrintTabs P hpl
      obtain ⟨q, hq⟩ : ∃ q, q = strOfNums (Lib.quoteZ Lib.goPrintTabs P) := ⟨_, rfl⟩
      rw [← hq] at CQ hqd
      have hqs : q.size ≤ 1048580 := by rw [Lib.size_eq, hqd]; simp; omega
      have HCQ := Lib.hid CQ
      have HQd := Lib.hid hqd
      clear hc1 hc2 hsz hpl hkA htA CQ hqd hq
      go_wp2_with (go_at_call 22; refine HCQ.out.mono ?_; rintro x w3 ⟨rfl, hb3⟩; refine Hid.out ?_)
      refine Lib.hid ?_
      have hk3 : Keep (fun _ => False) (wr.alloc (.cells #[.string P, .string Q] 41)) w3 := Keep.of_below hb3 _
      have hkr3 : Keep (fun _ => False) wr w3 := ((Keep.refl _ wr).alloc _).trans hk3
      have e1 : w3.cell? ⟨wr.heap.size, 0, none⟩ = some (.string P) := hk3.cellA (fun h => h) (block_cell (heap_alloc_new wr _))
      have e2 : w3.cell? ⟨wr.heap.size, 1, none⟩ = some (.string Q) := hk3.cellA (fun h => h) (block_cell (heap_alloc_new wr _))
      clear hb3 hk3 HCQ
      obtain ⟨L, hL⟩ : ∃ L, L = lineS (P, Q) := ⟨_, rfl⟩
      have HL := Lib.hid hL
      have hLs : L.size ≤ 2100000 := by rw [hL]; exact lineS_size _ hszP hszQ
      have hstd : Go.Proofs.Qxb6604462aDoor.std d[k] = stdB P.data.toList := by rw [← HE.out]; rfl
      by_cases hqe : Q = ⟨#[]⟩
      · have hqL : q = L := by rw [hL]; exact line_bare (e := (P, Q)) HQd.out hqe
        have hqL := hqL.symm
        subst hqL
        subst hqe
        clear hL
        cases hst : stdB P.data.toList with
        | true =>
          have HSt : Hid (Go.Proofs.Qxb6604462aDoor.std d[k] = true) := Lib.hid (hstd.trans hst)
          clear hstd
          have C23 := isStandard P w3 (by omega)
          rw [hst] at C23
          have HC23 := Lib.hid C23
          have hrw := row_keepK HLp.out.s hkr3 (fun _ _ h => h)
          have hrwA : ∀ q, ((w3.drewN q).alloc (.cells #[.string L] 9)).ownsRow M 9 1 _ _ _ := fun q => hrw.alloc _
          have hMs : M ≤ w3.heap.size + 1 := by have := HM.out; have := HLp.out.kp.size; have := hkr3.size; omega
          have HRwA := Lib.hid hrwA
          have HKr3 := Lib.hid hkr3
          clear C23 hrw hrwA hkr3 hst
          go_wp2_with (first | (go_at_call 23; refine HC23.out.mono ?_; rintro x w4 ⟨rfl, q4, rfl⟩) | (at_builtin; refine wpList_append_fresh _ rfl _ _ 23 rfl M 9 i0 (.string ⟨#[]⟩) 1 16 Tryd.underlying23 hi hz0 hz1 hz2 rfl (by decide) (.slice s1 (grp Go.Proofs.Qxb6604462aDoor.std (d.take k)).length c1) (grp Go.Proofs.Qxb6604462aDoor.std (d.take k)).length (strs (grp Go.Proofs.Qxb6604462aDoor.std (d.take k))) rfl (HRwA.out q4) ⟨w3.heap.size, 0, none⟩ 1 1 [Value.string L] rfl rfl (cell_one_new _ _ _) (by intro u hu; simp at hu; subst hu; rfl) (by unfold maxLen; omega) (by omega) (by simp; omega) ?_))
          intro v1 W1 hown1 hgrow hfr
          have HNew := Lib.hid (HLp.out.std hkn HSt.out HM.out ((HKr3.out.drewN q4).alloc (.cells #[.string L] 9)) (by rw [← HE.out, ← HL.out]; exact hown1) hgrow hfr)
          obtain ⟨vp, vc, hvv⟩ := slice_of_own hown1
          subst hvv
          clear hown1 hgrow hfr
          go_wp2
          go_roundg (gk - 1)
          case measure => have := HK.out; omega
          case rel => exact ⟨k + 1, _, _, rfl, rfl, by go_num, by have := HK.out; omega, HNew.out⟩
        | false =>
          have HSt : Hid (Go.Proofs.Qxb6604462aDoor.std d[k] = false) := Lib.hid (hstd.trans hst)
          clear hstd
          have C23 := isStandard P w3 (by omega)
          rw [hst] at C23
          have HC23 := Lib.hid C23
          have hrw := row_keepK HLp.out.o hkr3 (fun _ _ h => h)
          have hrwA : ∀ q, ((w3.drewN q).alloc (.cells #[.string L] 9)).ownsRow M 9 1 _ _ _ := fun q => hrw.alloc _
          have hMs : M ≤ w3.heap.size + 1 := by have := HM.out; have := HLp.out.kp.size; have := hkr3.size; omega
          have HRwA := Lib.hid hrwA
          have HKr3 := Lib.hid hkr3
          clear C23 hrw hrwA hkr3 hst
          go_wp2_with (first | (go_at_call 23; refine HC23.out.mono ?_; rintro x w4 ⟨rfl, q4, rfl⟩) | (at_builtin; refine wpList_append_fresh _ rfl _ _ 23 rfl M 9 i0 (.string ⟨#[]⟩) 1 16 Tryd.underlying23 hi hz0 hz1 hz2 rfl (by decide) (.slice s2 (grp (fun e => !Go.Proofs.Qxb6604462aDoor.std e) (d.take k)).length c2) (grp (fun e => !Go.Proofs.Qxb6604462aDoor.std e) (d.take k)).length (strs (grp (fun e => !Go.Proofs.Qxb6604462aDoor.std e) (d.take k))) rfl (HRwA.out q4) ⟨w3.heap.size, 0, none⟩ 1 1 [Value.string L] rfl rfl (cell_one_new _ _ _) (by intro u hu; simp at hu; subst hu; rfl) (by unfold maxLen; omega) (by omega) (by simp; omega) ?_))
          intro v1 W1 hown1 hgrow hfr
          have HNew := Lib.hid (HLp.out.oth hkn HSt.out HM.out ((HKr3.out.drewN q4).alloc (.cells #[.string L] 9)) (by rw [← HE.out, ← HL.out]; exact hown1) hgrow hfr)
          obtain ⟨vp, vc, hvv⟩ := slice_of_own hown1
          subst hvv
          clear hown1 hgrow hfr
          go_wp2
          go_roundg (gk - 1)
          case measure => have := HK.out; omega
          case rel => exact ⟨k + 1, _, _, rfl, rfl, by go_num, by have := HK.out; omega, HNew.out⟩
      · have hb1 := str_no hqe
        have hb2 : Q.toList.isEmpty = false := by
          rw [ByteArray.toList_eq]
          cases hqq : Q.data.toList with
          | nil => exact absurd (str_eq (by simpa using hqq)) hqe
          | cons a l => rfl
        have hqL : (Q ++ (⟨#[32]⟩ : ByteArray)) ++ q = L := by rw [hL]; exact line_alias (e := (P, Q)) HQd.out hqe
        clear hqe hL
        cases hst : stdB P.data.toList with
        | true =>
          have HSt : Hid (Go.Proofs.Qxb6604462aDoor.std d[k] = true) := Lib.hid (hstd.trans hst)
          clear hstd
          have C23 := isStandard P w3 (by omega)
          rw [hst] at C23
          have HC23 := Lib.hid C23
          have hrw := row_keepK HLp.out.s hkr3 (fun _ _ h => h)
          have hrwA : ∀ q, ((w3.drewN q).alloc (.cells #[.string L] 9)).ownsRow M 9 1 _ _ _ := fun q => hrw.alloc _
          have hMs : M ≤ w3.heap.size + 1 := by have := HM.out; have := HLp.out.kp.size; have := hkr3.size; omega
          have HRwA := Lib.hid hrwA
          have HKr3 := Lib.hid hkr3
          clear C23 hrw hrwA hkr3 hst
          go_wp2_with (first | (go_at_call 23; refine HC23.out.mono ?_; rintro x w4 ⟨rfl, q4, rfl⟩) | (at_builtin; refine wpList_append_fresh _ rfl _ _ 23 rfl M 9 i0 (.string ⟨#[]⟩) 1 16 Tryd.underlying23 hi hz0 hz1 hz2 rfl (by decide) (.slice s1 (grp Go.Proofs.Qxb6604462aDoor.std (d.take k)).length c1) (grp Go.Proofs.Qxb6604462aDoor.std (d.take k)).length (strs (grp Go.Proofs.Qxb6604462aDoor.std (d.take k))) rfl (HRwA.out q4) ⟨w3.heap.size, 0, none⟩ 1 1 [Value.string L] rfl rfl (cell_one_new _ _ _) (by intro u hu; simp at hu; subst hu; rfl) (by unfold maxLen; omega) (by omega) (by simp; omega) ?_))
          intro v1 W1 hown1 hgrow hfr
          have HNew := Lib.hid (HLp.out.std hkn HSt.out HM.out ((HKr3.out.drewN q4).alloc (.cells #[.string L] 9)) (by rw [← HE.out, ← HL.out]; exact hown1) hgrow hfr)
          obtain ⟨vp, vc, hvv⟩ := slice_of_own hown1
          subst hvv
          clear hown1 hgrow hfr
          go_wp2
          go_roundg (gk - 1)
          case measure => have := HK.out; omega
          case rel => exact ⟨k + 1, _, _, rfl, rfl, by go_num, by have := HK.out; omega, HNew.out⟩
        | false =>
          have HSt : Hid (Go.Proofs.Qxb6604462aDoor.std d[k] = false) := Lib.hid (hstd.trans hst)
          clear hstd
          have C23 := isStandard P w3 (by omega)
          rw [hst] at C23
          have HC23 := Lib.hid C23
          have hrw := row_keepK HLp.out.o hkr3 (fun _ _ h => h)
          have hrwA : ∀ q, ((w3.drewN q).alloc (.cells #[.string L] 9)).ownsRow M 9 1 _ _ _ := fun q => hrw.alloc _
          have hMs : M ≤ w3.heap.size + 1 := by have := HM.out; have := HLp.out.kp.size; have := hkr3.size; omega
          have HRwA := Lib.hid hrwA
          have HKr3 := Lib.hid hkr3
          clear C23 hrw hrwA hkr3 hst
          go_wp2_with (first | (go_at_call 23; refine HC23.out.mono ?_; rintro x w4 ⟨rfl, q4, rfl⟩) | (at_builtin; refine wpList_append_fresh _ rfl _ _ 23 rfl M 9 i0 (.string ⟨#[]⟩) 1 16 Tryd.underlying23 hi hz0 hz1 hz2 rfl (by decide) (.slice s2 (grp (fun e => !Go.Proofs.Qxb6604462aDoor.std e) (d.take k)).length c2) (grp (fun e => !Go.Proofs.Qxb6604462aDoor.std e) (d.take k)).length (strs (grp (fun e => !Go.Proofs.Qxb6604462aDoor.std e) (d.take k))) rfl (HRwA.out q4) ⟨w3.heap.size, 0, none⟩ 1 1 [Value.string L] rfl rfl (cell_one_new _ _ _) (by intro u hu; simp at hu; subst hu; rfl) (by unfold maxLen; omega) (by omega) (by simp; omega) ?_))
          intro v1 W1 hown1 hgrow hfr
          have HNew := Lib.hid (HLp.out.oth hkn HSt.out HM.out ((HKr3.out.drewN q4).alloc (.cells #[.string L] 9)) (by rw [← HE.out, ← HL.out]; exact hown1) hgrow hfr)
          obtain ⟨vp, vc, hvv⟩ := slice_of_own hown1
          subst hvv
          clear hown1 hgrow hfr
          go_wp2
          go_roundg (gk - 1)
          case measure => have := HK.out; omega
          case rel => exact ⟨k + 1, _, _, rfl, rfl, by go_num, by have := HK.out; omega, HNew.out⟩
    · have hki : ¬ (k : Int) < (d.length : Int) := by omega
      have hke : k = d.length := by have := HK.out; omega
      have htk : d.take k = d := by rw [hke]; exact List.take_length
      have hrs := HLp.out.s
      have hro := HLp.out.o
      have hMk : M ≤ wr.heap.size := by have := HM.out; have := HLp.out.kp.size; omega
      have hkw : Keep (fun _ => False) w wr := HKw.out.trans HLp.out.kp
      rw [htk] at hrs hro hgs hgo ⊢
      clear HLp HK hke htk hki
      have hA2 : ∀ a ∈ (grp Go.Proofs.Qxb6604462aDoor.std d).map (·.data.toList), a.length ≤ 2100000 := grp_small HSz.out HPerm.out _
      have hB2 : ∀ a ∈ (grp (fun e => !Go.Proofs.Qxb6604462aDoor.std e) d).map (·.data.toList), a.length ≤ 2100000 := grp_small HSz.out HPerm.out _
      have hdecl := decl_of d
      obtain ⟨A, hA⟩ : ∃ A, A = grp Go.Proofs.Qxb6604462aDoor.std d := ⟨_, rfl⟩
      obtain ⟨B, hB⟩ : ∃ B, B = grp (fun e => !Go.Proofs.Qxb6604462aDoor.std e) d := ⟨_, rfl⟩
      rw [← hA] at hrs hgs hA2 hdecl ⊢
      rw [← hB] at hro hgo hB2 hdecl ⊢
      have HDecl := Lib.hid hdecl
      clear hA hB hdecl
      by_cases hone : d.length = 1
      · have hb1 : ((d.length : Int) == 1) = true := beq_yes (by omega)
        obtain ⟨L, hAB, hLd, hLs⟩ := HDecl.out.1 hone
        have hLz : L.size ≤ 2100000 := by
          have hm : L.data.toList ∈ (A ++ B).map (·.data.toList) := by rw [hAB]; simp
          rw [List.map_append, List.mem_append] at hm
          rw [Lib.size_eq]
          exact hm.elim (hA2 _) (hB2 _)
        have hsum : A.length + B.length = 1 := by have := congrArg List.length hAB; simpa using this
        have C24 := concat24 wr.heap.size M 2 (.slice s1 A.length c1) (.slice s2 B.length c2) A B (wr.alloc (.cells #[.slice s1 A.length c1, .slice s2 B.length c2] 23)) (by omega) (by omega) (by omega) (block_cell (heap_alloc_new wr _)) (block_cell (heap_alloc_new wr _)) (hrs.alloc _) (hro.alloc _)
        have HC24 := Lib.hid C24
        have HKw3 := Lib.hid hkw
        have HAB := Lib.hid hAB
        have HLd := Lib.hid hLd
        clear C24 hrs hro hkw hAB hLd hA2 hB2 HDecl hgs hgo
        go_wp2_with (go_at_call 24; refine HC24.out.mono ?_; rintro x w3 ⟨⟨v, rfl, hv⟩, hk3⟩; refine Hid.out ?_)
        refine Lib.hid ?_
        rw [HAB.out] at hv
        rcases hv.2 with ⟨_, h0⟩ | ⟨g3, cap3, cur3, rfl, hb3, hg3, hnc3, hcm3, hcs3, htk3⟩
        · cases h0
        have hcell : w3.cell? ⟨g3, 0, none⟩ = some (.string L) := by
          rw [block_cell hg3]
          have h1 : (cur3.toList.take ([L].length * 1))[0]? = some (.string L) := by rw [htk3]; rfl
          rw [List.getElem?_take_of_lt (by simp), Array.getElem?_toList] at h1
          exact h1
        have hkf : Keep (fun _ => False) w w3 := (HKw3.out.alloc _).trans hk3
        have HKf := Lib.hid hkf
        clear hv hg3 htk3 hcs3 hk3 hkf HC24
        go_wp2
        go_ret
        exact ⟨_, d, rfl, HPerm.out, HSort.out, by rw [← HLd.out]; simp [import7], HKf.out⟩
      · have hb1 : ((d.length : Int) == 1) = false := beq_no (by omega)
        have hdl := HDecl.out.2 (by omega)
        obtain ⟨J1, hJ1⟩ : ∃ J1 : ByteArray, J1 = ⟨(Lib.join (A.map (·.data.toList)) [10, 9]).toArray⟩ := ⟨_, rfl⟩
        obtain ⟨J2, hJ2⟩ : ∃ J2 : ByteArray, J2 = ⟨(Lib.join (B.map (·.data.toList)) [10, 9]).toArray⟩ := ⟨_, rfl⟩
        have z1 : J1.size ≤ 3000000000 := by
          rw [hJ1]
          have := join_len [10, 9] 2100000 (A.map (·.data.toList)) hA2
          rw [List.length_map] at this
          show (Lib.join (A.map (·.data.toList)) [10, 9]).toArray.size ≤ _
          simp only [List.length_cons, List.length_nil, List.size_toArray] at this ⊢
          omega
        have z2 : J2.size ≤ 3000000000 := by
          rw [hJ2]
          have := join_len [10, 9] 2100000 (B.map (·.data.toList)) hB2
          rw [List.length_map] at this
          show (Lib.join (B.map (·.data.toList)) [10, 9]).toArray.size ≤ _
          simp only [List.length_cons, List.length_nil, List.size_toArray] at this ⊢
          omega
        have CJ1 := join25 ⟨#[10, 9]⟩ hrs (by omega) (by
          have := join_len [10, 9] 2100000 (A.map (·.data.toList)) hA2
          rw [List.length_map] at this
          show (Lib.join (A.map (·.data.toList)) [10, 9]).length ≤ _
          simp only [List.length_cons, List.length_nil] at this
          omega)
        rw [show (⟨(Lib.join (A.map (·.data.toList)) (⟨#[10, 9]⟩ : ByteArray).data.toList).toArray⟩ : ByteArray) = J1 from hJ1.symm] at CJ1
        have hjd1 : J1.data.toList = Lib.join (A.map (·.data.toList)) [10, 9] := by rw [hJ1]
        have hjd2 : J2.data.toList = Lib.join (B.map (·.data.toList)) [10, 9] := by rw [hJ2]
        rw [← hjd1, ← hjd2] at hdl
        have HCJ1 := Lib.hid CJ1
        have HRo := Lib.hid hro
        have HKw3 := Lib.hid hkw
        have HD := Lib.hid hdl
        have HJ2 := Lib.hid hJ2
        clear CJ1 hrs hro hkw hdl hJ1 hJ2 hjd1 hjd2 hA2 HDecl hone
        have q1 : ¬ 9223372036854775807 < 10 + J1.size := by omega
        have q2 : ¬ 9223372036854775807 < 10 + J1.size + J2.size := by omega
        have q3 : ¬ 9223372036854775807 < 10 + J1.size + J2.size + 3 := by omega
        have q4 : ¬ 9223372036854775807 < J1.size + 3 := by omega
        have q5 : ¬ 9223372036854775807 < 10 + (J1.size + 3) := by omega
        have q6 : ¬ 9223372036854775807 < 10 + (J1.size + 3) + J2.size := by omega
        have q7 : ¬ 9223372036854775807 < 10 + (J1.size + 3) + J2.size + 3 := by omega
        rcases Nat.eq_zero_or_pos A.length with hA0 | hA0
        · have gA : ¬ (0 : Int) < (A.length : Int) := by omega
          have gA' : ¬ 0 < A.length := by omega
          have hD2 : import7 ++ [40, 10, 9] ++ J1.data.toList ++ J2.data.toList ++ [10, 41, 10] = declOf d := by
            have := HD.out
            rw [if_neg (by omega), List.append_nil] at this
            exact this
          have HD2 := Lib.hid hD2
          clear hD2 hA0
          go_wp2_with (go_at_call 25; refine HCJ1.out.mono ?_; rintro x w3 ⟨rfl, hb3⟩; refine Hid.out ?_)
          refine Lib.hid ?_
          have hk3 : Keep (fun _ => False) wr w3 := Keep.of_below hb3 _
          have CJ2 := join25 ⟨#[10, 9]⟩ (row_keepK HRo.out hk3 (fun _ _ h => h)) (by omega) (by
            have := join_len [10, 9] 2100000 (B.map (·.data.toList)) hB2
            rw [List.length_map] at this
            show (Lib.join (B.map (·.data.toList)) [10, 9]).length ≤ _
            simp only [List.length_cons, List.length_nil] at this
            omega)
          rw [show (⟨(Lib.join (B.map (·.data.toList)) (⟨#[10, 9]⟩ : ByteArray).data.toList).toArray⟩ : ByteArray) = J2 from HJ2.out.symm] at CJ2
          have HCJ2 := Lib.hid CJ2
          have hkw3 := HKw3.out.trans hk3
          have HKw4 := Lib.hid hkw3
          clear CJ2 hb3 hk3 hkw3 HCJ1
          go_wp2_with (go_at_call 25; refine HCJ2.out.mono ?_; rintro x w4 ⟨rfl, hb4⟩; have HKf := Lib.hid (HKw4.out.trans (Keep.of_below hb4 (fun _ => False))); clear hb4)
          go_ret
          refine ⟨_, d, rfl, HPerm.out, HSort.out, ?_, HKf.out⟩
          rw [← HD2.out]
          simp [import7]
        · have gA : (0 : Int) < (A.length : Int) := by omega
          have gA' : 0 < A.length := hA0
          rcases Nat.eq_zero_or_pos B.length with hB0 | hB0
          · have gB : ¬ (0 : Int) < (B.length : Int) := by omega
            have gB' : ¬ 0 < B.length := by omega
            have hD2 : import7 ++ [40, 10, 9] ++ J1.data.toList ++ J2.data.toList ++ [10, 41, 10] = declOf d := by
              have := HD.out
              rw [if_neg (by omega), List.append_nil] at this
              exact this
            have HD2 := Lib.hid hD2
            clear hD2 hA0 hB0
            go_wp2_with (go_at_call 25; refine HCJ1.out.mono ?_; rintro x w3 ⟨rfl, hb3⟩; refine Hid.out ?_)
            refine Lib.hid ?_
            have hk3 : Keep (fun _ => False) wr w3 := Keep.of_below hb3 _
            have CJ2 := join25 ⟨#[10, 9]⟩ (row_keepK HRo.out hk3 (fun _ _ h => h)) (by omega) (by
              have := join_len [10, 9] 2100000 (B.map (·.data.toList)) hB2
              rw [List.length_map] at this
              show (Lib.join (B.map (·.data.toList)) [10, 9]).length ≤ _
              simp only [List.length_cons, List.length_nil] at this
              omega)
            rw [show (⟨(Lib.join (B.map (·.data.toList)) (⟨#[10, 9]⟩ : ByteArray).data.toList).toArray⟩ : ByteArray) = J2 from HJ2.out.symm] at CJ2
            have HCJ2 := Lib.hid CJ2
            have hkw3 := HKw3.out.trans hk3
            have HKw4 := Lib.hid hkw3
            clear CJ2 hb3 hk3 hkw3 HCJ1
            go_wp2_with (go_at_call 25; refine HCJ2.out.mono ?_; rintro x w4 ⟨rfl, hb4⟩; have HKf := Lib.hid (HKw4.out.trans (Keep.of_below hb4 (fun _ => False))); clear hb4)
            go_ret
            refine ⟨_, d, rfl, HPerm.out, HSort.out, ?_, HKf.out⟩
            rw [← HD2.out]
            simp [import7]
          · have gB : (0 : Int) < (B.length : Int) := by omega
            have gB' : 0 < B.length := hB0
            have hD2 : import7 ++ [40, 10, 9] ++ (J1.data.toList ++ [10, 10, 9]) ++ J2.data.toList ++ [10, 41, 10] = declOf d := by
              have := HD.out
              rw [if_pos ⟨hA0, hB0⟩] at this
              exact this
            have HD2 := Lib.hid hD2
            clear hD2 hA0 hB0
            go_wp2_with (go_at_call 25; refine HCJ1.out.mono ?_; rintro x w3 ⟨rfl, hb3⟩; refine Hid.out ?_)
            refine Lib.hid ?_
            have hk3 : Keep (fun _ => False) wr w3 := Keep.of_below hb3 _
            have CJ2 := join25 ⟨#[10, 9]⟩ (row_keepK HRo.out hk3 (fun _ _ h => h)) (by omega) (by
              have := join_len [10, 9] 2100000 (B.map (·.data.toList)) hB2
              rw [List.length_map] at this
              show (Lib.join (B.map (·.data.toList)) [10, 9]).length ≤ _
              simp only [List.length_cons, List.length_nil] at this
              omega)
            rw [show (⟨(Lib.join (B.map (·.data.toList)) (⟨#[10, 9]⟩ : ByteArray).data.toList).toArray⟩ : ByteArray) = J2 from HJ2.out.symm] at CJ2
            have HCJ2 := Lib.hid CJ2
            have hkw3 := HKw3.out.trans hk3
            have HKw4 := Lib.hid hkw3
            clear CJ2 hb3 hk3 hkw3 HCJ1
            go_wp2_with (go_at_call 25; refine HCJ2.out.mono ?_; rintro x w4 ⟨rfl, hb4⟩; have HKf := Lib.hid (HKw4.out.trans (Keep.of_below hb4 (fun _ => False))); clear hb4)
            go_ret
            refine ⟨_, d, rfl, HPerm.out, HSort.out, ?_, HKf.out⟩
            rw [← HD2.out]
            simp [import7]
end Go.Proofs.Qxb6604462aDoor
