/-
  seat b6604462aD: a new scope, Name and Import, walked.
-/
import Derived.Test.Qxb6604462aDoorClone
import Derived.Deep.CutBlock
import Derived.Lib.AppendIntMem
import Derived.Lib.PrintData
import Derived.Lib.SmallJoins
namespace Go.Proofs.Qxb6604462aDoor
open Go Go.RowKit

set_option maxRecDepth 100000 in
set_option maxHeartbeats 2000000 in
theorem newScope (v : Value) (w : World) (hv : ∃ p n c, v = .slice p n c) : Calls Tryd.prog 9 #[v] w fun e w' => e = .returned (.pointer (some ⟨w.heap.size + 1, 0, none⟩)) ∧ w' = (w.alloc (.cells #[v] 23)).alloc (.cells #[.func (.func 15) #[] #[.pointer (some ⟨w.heap.size, 0, none⟩)], .slice none 0 0, .slice none 0 0] 44) := by
  obtain ⟨p, n, c, rfl⟩ := hv
  go_enter Tryd.func9, Tryd.ntmps9
  go_wp2
  go_ret
  exact ⟨rfl, rfl⟩

theorem slice_of_own {w : World} {b n sz : Nat} {t : TypeId} {v : Value} {xs : List Value} (h : w.ownsRow b t sz v n xs) : ∃ p c, v = .slice p n c := by
  rcases h.2 with ⟨rfl, h0⟩ | ⟨g, cap, cur, rfl, _⟩
  · exact ⟨none, 0, by rw [h0]⟩
  · exact ⟨_, cap, rfl⟩

theorem contains16 {w : World} {b n : Nat} {v : Value} {zs : List ByteArray} (x : ByteArray) (h : w.ownsRow b 9 1 v n (strs zs)) (hl : zs.length ≤ 2000000) :
    Calls Tryd.prog 16 #[v, .string x] w fun e w' => e = .returned (.bool (Lib.containsS zs x)) ∧ w' = w := by
  have hn : n = zs.length := by have := h.1; simp [strs] at this; omega
  subst hn
  rcases h.2 with ⟨rfl, h0⟩ | ⟨g, cap, cur, rfl, _, hg, _, _, _, htake⟩
  · have hz : zs = [] := List.length_eq_zero_iff.1 h0
    subst hz
    exact Tryd.slices_Contains_string_empty none 0 x w
  · have hc : ∀ j, j < zs.length → w.cell? ⟨g, 0 + j, none⟩ = some (.string (zs.getD j ByteArray.empty)) := fun j hj => by
      rw [block_cell hg, Nat.zero_add]
      have h1 : (cur.toList.take (zs.length * 1))[j]? = some (.string zs[j]) := by
        rw [htake]
        simp [strs, hj]
      rw [List.getElem?_take_of_lt (by omega), Array.getElem?_toList] at h1
      rw [h1]
      simp [hj]
    have := Tryd.slices_Contains_string g 0 zs.length cap zs x w (Nat.le_refl _) (by omega) hc
    rwa [List.take_length] at this

theorem keep_growN (w : World) (q : Nat) (os : Array Obj) : Keep (fun _ => False) w (Go.Sort.grow (w.drewN q) os) :=
  ⟨rfl, rfl, rfl, by simp [Go.Sort.grow], fun k hk _ => by simp [Go.Sort.grow, Array.getElem?_append_left hk]⟩

/-- The scope at block S: the closure's box at B; what is declared, the names given, the imports. -/
structure Sc (N S B : Nat) (ds gs : List ByteArray) (sp : List Ent) (dv gv iv : Value) (w : World) : Prop where
  blk : w.heap[S]? = some (.cells #[.func (.func 15) #[] #[.pointer (some ⟨B, 0, none⟩)], gv, iv] 44 (0, 0))
  box : w.cell? ⟨B, 0, none⟩ = some dv
  dec : w.ownsRow 0 9 1 dv ds.length (strs ds)
  giv : w.ownsRow N 9 1 gv gs.length (strs gs)
  imp : w.ownsRow N 41 2 iv sp.length (pairCells sp)
  ap : ∀ k, gv.ownBlock = some k → iv.ownBlock ≠ some k
  low : S < N ∧ B < N ∧ B ≠ S ∧ ∀ k, dv.ownBlock = some k → k < N ∧ k ≠ S
  size : N ≤ w.heap.size

/-- What the scope's functions may turn. -/
def Mine (N S : Nat) (k : Nat) : Prop := k = S ∨ N ≤ k

/-- The tables of the library on the road. -/
structure Tabs (w : World) : Prop where
  pow : Lib.TabIs Tryd.prog w "internal/strconv.uint64pow10" .u64 Lib.pow10Tab
  prt : Lib.PrintTabsAt 4 5 6 7 Lib.goPrintTabs w
  utf : Lib.Utf8Tabs 2 3 w

def NamePost (N S B : Nat) (ds gs : List ByteArray) (sp : List Ent) (dv iv : Value) (base : ByteArray) (w : World) (e : Ending) (w' : World) : Prop :=
  ∃ (nm : ByteArray) (gv' : Value), e = .returned (.string nm) ∧ nm ∉ ds ∧ nm ∉ gs ∧ nm.size ≤ base.size + 21 ∧ Sc N S B ds (gs ++ [nm]) sp dv gv' iv w' ∧ Keep (Mine N S) w w'

set_option maxRecDepth 100000 in
set_option maxHeartbeats 4000000 in
theorem nameOf (N S B : Nat) (ds gs : List ByteArray) (sp : List Ent) (dv gv iv : Value) (base : ByteArray) (w : World) (hds : ds.length ≤ 1000) (hgs : gs.length ≤ 1000) (hb : base.size ≤ 1048576) (h : Sc N S B ds gs sp dv gv iv w)
    (htab : Lib.TabBelow Tryd.prog w.heap.size w "internal/strconv.uint64pow10" .u64 Lib.pow10Tab) :
    Calls Tryd.prog 17 #[.pointer (some ⟨S, 0, none⟩), .string base] w fun e w' => NamePost N S B ds gs sp dv iv base w e w' := by
  obtain ⟨k0, hk0, hfree, htaken⟩ := free_ex base (ds ++ gs)
  rw [List.length_append] at hk0
  obtain ⟨i0, hi, hz0, hz1, hz2⟩ := infoStr
  obtain ⟨dp, dc, hdv⟩ := slice_of_own h.dec
  obtain ⟨gp, gc, hgv⟩ := slice_of_own h.giv
  obtain ⟨ip, ic, hiv⟩ := slice_of_own h.imp
  have HSc := Lib.hid h
  have HFree := Lib.hid hfree
  have HTk := Lib.hid htaken
  have HTab := Lib.hid htab
  clear h hfree htaken htab
  subst hdv hgv hiv
  have CD : ∀ (x : ByteArray) (W : World), Keep (fun _ => False) w W → Calls Tryd.prog 15 #[.string x, .pointer (some ⟨B, 0, none⟩)] W fun e w' => e = .returned (.bool (Lib.containsS ds x)) ∧ w' = W := fun x W hW => by
    have C := contains16 x (row_keepK HSc.out.dec hW (fun _ _ h => h)) (by omega)
    have hbx := hW.cellA (fun h => h) HSc.out.box
    have HC := Lib.hid C
    obtain ⟨bb, hbb⟩ : ∃ bb, bb = Lib.containsS ds x := ⟨_, rfl⟩
    rw [← hbb] at HC ⊢
    clear C hbb HSc HFree HTk HTab
    go_enter Tryd.func15, Tryd.ntmps15
    go_wp2_with (go_at_call 16; refine HC.out.mono ?_; rintro x w1 ⟨rfl, hw⟩; have hw := hw.symm; subst hw)
    go_ret
    exact ⟨rfl, rfl⟩
  have CG : ∀ (x : ByteArray) (W : World), Keep (fun _ => False) w W → Calls Tryd.prog 16 #[.slice gp gs.length gc, .string x] W fun e w' => e = .returned (.bool (Lib.containsS gs x)) ∧ w' = W := fun x W hW => contains16 x (row_keepK HSc.out.giv hW (fun _ _ h => h)) (by omega)
  have HCD := Lib.hid CD
  have HCG := Lib.hid CG
  clear CD CG
  go_enter Tryd.func17, Tryd.ntmps17
  go_wp2_with fail
  go_loopg [5, 6] k0 (fun g x5 x6 wx => ∃ k : Nat, x5 = .string (cnd base k) ∧ x6 = .int .i64 ((k : Int) + 2) ∧ k + g = k0 ∧ Keep (fun _ => False) w wx)
  case atStart => exact ⟨0, rfl, rfl, by omega, Keep.refl _ _⟩
  case round =>
    obtain ⟨k, rfl, rfl, hk, hkp⟩ := hrel
    have hsb := hkp.block S (block_lt HSc.out.blk) (fun h => h)
    rw [HSc.out.blk] at hsb
    have s0 : wr.cell? ⟨S, 0, none⟩ = some (.func (.func 15) #[] #[.pointer (some ⟨B, 0, none⟩)]) := block_cell hsb
    have s1 : wr.cell? ⟨S, 1, none⟩ = some (.slice gp gs.length gc) := block_cell hsb
    have C1 := HCD.out (cnd base k) wr hkp
    have C2 := HCG.out (cnd base k) wr hkp
    have HK := Lib.hid hk
    have HKp := Lib.hid hkp
    have HSb := Lib.hid hsb
    clear hsb hkp hk
    by_cases hkk : k < k0
    · have hmem := HTk.out k hkk
      have CI := Tryd.strconv_Itoa ((k : Int) + 2) (by omega) (by omega) wr (HTab.out wr (HKp.out.below (Nat.le_refl _) (fun _ h => h.elim)))
      obtain ⟨X, hX⟩ : ∃ X : ByteArray, X = ⟨(Lib.itoa ((k : Int) + 2)).toArray⟩ := ⟨_, rfl⟩
      rw [← hX] at CI
      have hXs : X.size ≤ 21 := by
        rw [hX]
        have := Lib.itoa_length_le ((k : Int) + 2) (by omega) (by omega)
        simpa [ByteArray.size] using this
      have hcn : base ++ X = cnd base (k + 1) := by rw [hX]; rfl
      have HCI := Lib.hid CI
      have HCn := Lib.hid hcn
      clear CI hcn hX
      by_cases hd : cnd base k ∈ ds
      · rw [(Lib.containsS_iff _ _).2 hd] at C1
        have HC1 := Lib.hid C1
        clear C1 C2 hmem hd
        go_wp2_with (first | (go_at_call 15; refine HC1.out.mono ?_; rintro x w1 ⟨rfl, hw⟩; have hw := hw.symm; subst hw) | (go_at_call 29; refine HCI.out.mono ?_; rintro x w1 ⟨rfl, q, os, rfl⟩))
        go_roundg (gk - 1)
        case measure => have := HK.out; omega
        case rel => exact ⟨k + 1, by rw [HCn.out], by go_num, by have := HK.out; omega, HKp.out.trans (keep_growN _ _ _)⟩
      · have hg : cnd base k ∈ gs := (List.mem_append.1 hmem).resolve_left hd
        rw [show Lib.containsS ds (cnd base k) = false by rw [← Bool.not_eq_true, Lib.containsS_iff]; exact hd] at C1
        rw [(Lib.containsS_iff _ _).2 hg] at C2
        have HC1 := Lib.hid C1
        have HC2 := Lib.hid C2
        clear C1 C2 hmem hd hg
        go_wp2_with (first | (go_at_call 15; refine HC1.out.mono ?_; rintro x w1 ⟨rfl, hw⟩; have hw := hw.symm; subst hw) | (go_at_call 16; refine HC2.out.mono ?_; rintro x w1 ⟨rfl, hw⟩; have hw := hw.symm; subst hw) | (go_at_call 29; refine HCI.out.mono ?_; rintro x w1 ⟨rfl, q, os, rfl⟩))
        go_roundg (gk - 1)
        case measure => have := HK.out; omega
        case rel => exact ⟨k + 1, by rw [HCn.out], by go_num, by have := HK.out; omega, HKp.out.trans (keep_growN _ _ _)⟩
    · have hke : k = k0 := by have := HK.out; omega
      subst hke
      have hnd : cnd base k ∉ ds := fun h => HFree.out (List.mem_append.2 (Or.inl h))
      have hng : cnd base k ∉ gs := fun h => HFree.out (List.mem_append.2 (Or.inr h))
      rw [show Lib.containsS ds (cnd base k) = false by rw [← Bool.not_eq_true, Lib.containsS_iff]; exact hnd] at C1
      rw [show Lib.containsS gs (cnd base k) = false by rw [← Bool.not_eq_true, Lib.containsS_iff]; exact hng] at C2
      have hnz := cnd_size base k (by omega)
      obtain ⟨nm, hnm⟩ : ∃ nm, nm = cnd base k := ⟨_, rfl⟩
      rw [← hnm] at C1 C2 hnd hng hnz ⊢
      have HC1 := Lib.hid C1
      have HC2 := Lib.hid C2
      have HNd := Lib.hid hnd
      have HNg := Lib.hid hng
      have hgo : wr.ownsRow N 9 1 (.slice gp gs.length gc) gs.length (strs gs) := row_keepK HSc.out.giv HKp.out (fun _ _ h => h)
      have hNs : N ≤ wr.heap.size := Nat.le_trans HSc.out.size HKp.out.size
      clear C1 C2 hnd hng hnm HCD HCG HFree HTk
      go_wp2_with (first | (go_at_call 15; refine HC1.out.mono ?_; rintro x w1 ⟨rfl, hw⟩; have hw := hw.symm; subst hw) | (go_at_call 16; refine HC2.out.mono ?_; rintro x w1 ⟨rfl, hw⟩; have hw := hw.symm; subst hw) | (at_builtin; refine wpList_append_fresh _ rfl _ _ 23 rfl N 9 i0 (.string ⟨#[]⟩) 1 16 Tryd.underlying23 hi hz0 hz1 hz2 rfl (by decide) _ _ _ rfl (hgo.alloc _) ⟨wr.heap.size, 0, none⟩ 1 1 [Value.string nm] rfl rfl (cell_one_new _ _ _) (by intro u hu; simp at hu; subst hu; rfl) (by unfold maxLen; omega) (by omega) (by simp; omega) ?_))
      intro v1 w1 hown1 hgrow hfr
      obtain ⟨p1, c1, rfl⟩ := slice_of_own hown1
      have kg := keep_grown hgrow
      have hS : S < N := HSc.out.low.1
      have hSg : ¬ (Value.slice gp gs.length gc).ownBlock = some S := fun e => by have := (HSc.out.giv.lt S e).1; omega
      have hSa : (wr.alloc (.cells #[.string nm] 9)).heap[S]? = some (.cells #[.func (.func 15) #[] #[.pointer (some ⟨B, 0, none⟩)], .slice gp gs.length gc, .slice ip sp.length ic] 44 (0, 0)) := by rw [heap_alloc_old _ _ (by omega)]; exact HSb.out
      have hS1 := kg.block S (block_lt hSa) hSg
      rw [hSa] at hS1
      have s1' : w1.cell? ⟨S, 1, none⟩ = some (.slice gp gs.length gc) := block_cell hS1
      have f1' : w1.frozen? ⟨S, 1, none⟩ = false := block_free hS1
      have HS1 := Lib.hid hS1
      have HOwn1 := Lib.hid hown1
      have HKg := Lib.hid kg
      have HFr := Lib.hid hfr
      clear hS1 hSa hown1 kg hfr hgrow hgo
      go_wp2
      go_ret
      have kB : Keep (fun j => (Value.slice gp gs.length gc).ownBlock = some j ∨ j = S) w (w1.setCell ⟨S, 1, none⟩ (.slice p1 (gs.length + 1) c1)) := by
        refine Keep.setCell ?_ (Or.inr rfl) _
        exact ((HKp.out.mono (fun _ h => h.elim)).alloc _).trans (HKg.out.mono (fun _ h => Or.inl h))
      have kA := kB.mono (m' := Mine N S) (fun j hj => by
        rcases hj with hj | hj
        · exact Or.inr (HSc.out.giv.lt j hj).1
        · exact Or.inl hj)
      refine ⟨nm, .slice p1 (gs.length + 1) c1, rfl, HNd.out, HNg.out, hnz, ⟨?_, ?_, ?_, ?_, ?_, ?_, HSc.out.low, Nat.le_trans HSc.out.size kA.size⟩, kA⟩
      · have := block_setCell HS1.out (o := 1) (.slice p1 (gs.length + 1) c1)
        exact this
      · exact kA.cellA (fun h => by rcases h with h | h; exact HSc.out.low.2.2.1 h; exact Nat.not_le_of_lt HSc.out.low.2.1 h) HSc.out.box
      · exact row_keepK HSc.out.dec kA (fun j hj h => by
          have := HSc.out.low.2.2.2 j hj
          rcases h with h | h
          · exact this.2 h
          · omega)
      · have hh := ownsRow_setCell_below HOwn1.out (a := ⟨S, 1, none⟩) hS (.slice p1 (gs.length + 1) c1)
        simpa [strs] using hh
      · exact row_keepK HSc.out.imp kB (fun j hj h => by
          rcases h with h | h
          · exact HSc.out.ap j h hj
          · have := (HSc.out.imp.lt j hj).1; omega)
      · intro j hj hij
        rcases HFr.out with hf | hf
        · exact HSc.out.ap j (hf ▸ hj) hij
        · have h1 := hf j hj
          have h2 := (HSc.out.imp.lt j hij).2
          have h3 := HKp.out.size
          simp at h1
          omega

theorem cell_grown {W W2 : World} {b i : Nat} {v : Value} {row : Option Nat} (g : W.grownBy W2 row) (hne : some b ≠ row) (hb : W.cell? ⟨b, i, none⟩ = some v ∧ b < W.heap.size) : W2.cell? ⟨b, i, none⟩ = some v := by
  rw [← hb.1]
  unfold World.cell?
  rw [g.block b hb.2 hne]
theorem free_grown {W W2 : World} {b i : Nat} {row : Option Nat} (g : W.grownBy W2 row) (hne : some b ≠ row) (hb : W.frozen? ⟨b, i, none⟩ = false ∧ b < W.heap.size) : W2.frozen? ⟨b, i, none⟩ = false := by
  rw [← hb.1]
  unfold World.frozen?
  rw [g.block b hb.2 hne]

/-- The alias of a name given for a package's own. -/
def aliasOf (nm pkg : ByteArray) : ByteArray := if nm = pkg then ⟨#[]⟩ else nm
def ImportPost (N S B : Nat) (ds gs : List ByteArray) (sp : List Ent) (dv : Value) (path pkg : ByteArray) (w : World) (e : Ending) (w' : World) : Prop :=
  ∃ (nm : ByteArray) (gv' iv' : Value), e = .returned (.string nm) ∧ nm ∉ ds ∧ nm ∉ gs ∧ nm.size ≤ pkg.size + 21 ∧ Sc N S B ds (gs ++ [nm]) (sp ++ [(path, aliasOf nm pkg)]) dv gv' iv' w' ∧ Keep (Mine N S) w w'

theorem imp_end {N S B : Nat} {ds gs : List ByteArray} {sp : List Ent} {dv gv iv : Value} {w1 W W2 : World} {e : Ent} {v2 : Value} (h : Sc N S B ds gs sp dv gv iv w1) (hk : Keep (fun _ => False) w1 W) (hnew : W2.ownsRow N 41 2 v2 (sp.length + 1) (pairCells sp ++ [.string e.1, .string e.2])) (hgr : W.grownBy W2 iv.ownBlock) (hf : Fresh W iv v2) :
    Sc N S B ds gs (sp ++ [e]) dv gv v2 (W2.setCell ⟨S, 2, none⟩ v2) ∧ Keep (Mine N S) w1 (W2.setCell ⟨S, 2, none⟩ v2) := by
  have hS : S < N := h.low.1
  have kg := keep_grown hgr
  have k12 : Keep (fun j => iv.ownBlock = some j) w1 W2 := (hk.mono (fun _ h => h.elim)).trans kg
  have hS2 : W2.heap[S]? = some (.cells #[.func (.func 15) #[] #[.pointer (some ⟨B, 0, none⟩)], gv, iv] 44 (0, 0)) := by
    rw [k12.block S (block_lt h.blk) (fun e => by have := (h.imp.lt S e).1; omega)]
    exact h.blk
  have kB : Keep (fun j => iv.ownBlock = some j ∨ j = S) w1 (W2.setCell ⟨S, 2, none⟩ v2) := by
    refine Keep.setCell ?_ (Or.inr rfl) _
    exact k12.mono (fun _ h => Or.inl h)
  have kA := kB.mono (m' := Mine N S) (fun j hj => by
    rcases hj with hj | hj
    · exact Or.inr (h.imp.lt j hj).1
    · exact Or.inl hj)
  refine ⟨⟨block_setCell hS2 (o := 2) v2, ?_, ?_, ?_, ?_, ?_, h.low, Nat.le_trans h.size kA.size⟩, kA⟩
  · exact kA.cellA (fun h' => by rcases h' with h' | h'; exact h.low.2.2.1 h'; exact Nat.not_le_of_lt h.low.2.1 h') h.box
  · exact row_keepK h.dec kA (fun j hj h' => by
      have := h.low.2.2.2 j hj
      rcases h' with h' | h'
      · exact this.2 h'
      · omega)
  · exact row_keepK h.giv kB (fun j hj h' => by
      rcases h' with h' | h'
      · exact h.ap j hj h'
      · have := (h.giv.lt j hj).1; omega)
  · have hh := ownsRow_setCell_below hnew (a := ⟨S, 2, none⟩) hS v2
    simpa [pairCells] using hh
  · intro j hj hij
    rcases hf with hf | hf
    · exact h.ap j hj (hf ▸ hij)
    · have h1 := hf j hij
      have h2 := (h.giv.lt j hj).2
      have h3 := hk.size
      omega

set_option maxRecDepth 100000 in
set_option maxHeartbeats 4000000 in
theorem importOf (N S B : Nat) (ds gs : List ByteArray) (sp : List Ent) (dv gv iv : Value) (path pkg : ByteArray) (w : World) (hds : ds.length ≤ 1000) (hgs : gs.length ≤ 1000) (hsp : sp.length ≤ 1000) (hb : pkg.size ≤ 1048576) (h : Sc N S B ds gs sp dv gv iv w)
    (htab : Lib.TabBelow Tryd.prog w.heap.size w "internal/strconv.uint64pow10" .u64 Lib.pow10Tab) :
    Calls Tryd.prog 10 #[.pointer (some ⟨S, 0, none⟩), .string path, .string pkg] w fun e w' => ImportPost N S B ds gs sp dv path pkg w e w' := by
  obtain ⟨i0, hi, hz0, hz1, hz2⟩ := infoSpec
  have CN := nameOf N S B ds gs sp dv gv iv pkg w hds hgs hb h htab
  have HCN := Lib.hid CN
  clear CN h htab
  go_enter Tryd.func10, Tryd.ntmps10
  go_wp2_with (go_at_call 17; refine HCN.out.mono ?_; rintro x w1 ⟨nm, gv', rfl, hnd, hng, hnz, hsc, hkp⟩; refine Hid.out ?_)
  refine Lib.hid ?_
  obtain ⟨ip, ic, hiv⟩ := slice_of_own hsc.imp
  subst hiv
  have HSc := Lib.hid hsc
  have HKp := Lib.hid hkp
  have HNd := Lib.hid hnd
  have HNg := Lib.hid hng
  have s2 : w1.cell? ⟨S, 2, none⟩ = some (.slice ip sp.length ic) := block_cell hsc.blk
  have f2 : w1.frozen? ⟨S, 2, none⟩ = false := block_free hsc.blk
  have hSl : S < w1.heap.size := block_lt hsc.blk
  clear hsc hkp hnd hng HCN
  have hio := HSc.out.imp
  have hne0 : some S ≠ (Value.slice ip sp.length ic).ownBlock := fun hh => by have := hio.lt S hh.symm; have := HSc.out.low.1; omega
  have key : ∀ (al : ByteArray) (W0 : World), Keep (fun _ => False) w1 W0 → al = aliasOf nm pkg → ∀ W : World, W.heap = (W0.alloc (.cells #[.string path, .string al] 41)).heap → W.os = W0.os → W.tape = W0.tape → W.output = W0.output →
      W.ownsRow N 41 2 (.slice ip sp.length ic) sp.length (pairCells sp) ∧
      (∀ j u, [Value.string path, Value.string al][j]? = some u → W.cell? ((⟨W0.heap.size, 0, none⟩ : Addr).add j) = some u) ∧
      (W.cell? ⟨S, 2, none⟩ = some (.slice ip sp.length ic) ∧ S < W.heap.size) ∧
      (W.frozen? ⟨S, 2, none⟩ = false ∧ S < W.heap.size) ∧
      (∀ W2 v2, W2.ownsRow N 41 2 v2 (sp.length + 1) (pairCells sp ++ [.string path, .string al]) → W.grownBy W2 (Value.slice ip sp.length ic).ownBlock → Fresh W (.slice ip sp.length ic) v2 →
        ImportPost N S B ds gs sp dv path pkg w (.returned (.string nm)) (W2.setCell ⟨S, 2, none⟩ v2)) ∧ N ≤ W.heap.size := fun al W0 hW hal W e1 e2 e3 e4 => by
    have hkA : Keep (fun _ => False) w1 W := by
      have h := hW.alloc (.cells #[.string path, .string al] 41)
      exact ⟨e2.trans h.os, e3.trans h.tape, e4.trans h.output, by rw [e1]; exact h.size, fun k hk hm => by rw [e1]; exact h.block k hk hm⟩
    have hSb : W.heap[S]? = some (.cells #[.func (.func 15) #[] #[.pointer (some ⟨B, 0, none⟩)], gv', .slice ip sp.length ic] 44 (0, 0)) := by
      rw [hkA.block S hSl (fun h => h)]
      exact HSc.out.blk
    refine ⟨row_keepK hio hkA (fun _ _ h => h), fun j u hj => ?_, ⟨block_cell hSb, block_lt hSb⟩, ⟨block_free hSb, block_lt hSb⟩, fun W2 v2 g1 g2 g3 => ?_, Nat.le_trans HSc.out.size hkA.size⟩
    · have hb : W.heap[W0.heap.size]? = some (.cells #[.string path, .string al] 41 (0, 0)) := by rw [e1]; exact heap_alloc_new W0 _
      match j, hj with
      | 0, hj => rw [show ((⟨W0.heap.size, 0, none⟩ : Addr).add 0) = ⟨W0.heap.size, 0, none⟩ from rfl, block_cell hb]; exact hj
      | 1, hj => rw [show ((⟨W0.heap.size, 0, none⟩ : Addr).add 1) = ⟨W0.heap.size, 1, none⟩ from rfl, block_cell hb]; exact hj
      | j + 2, hj => simp at hj
    · obtain ⟨h1, h2⟩ := imp_end (e := (path, al)) HSc.out hkA g1 g2 g3
      rw [hal] at h1
      exact ⟨nm, gv', v2, rfl, HNd.out, HNg.out, hnz, h1, HKp.out.trans h2⟩
  have HKey := Lib.hid key
  clear key hio
  by_cases hne : nm = pkg
  · have hb1 := str_yes hne
    have H1 := Lib.hid (HKey.out ⟨#[]⟩ (w1.alloc (.cells #[.string path, .string ⟨#[]⟩] 41)) ((Keep.refl _ _).alloc _) (by unfold aliasOf; rw [if_pos hne]))
    have c0 : (w1.alloc (.cells #[.string path, .string ⟨#[]⟩] 41)).cell? ⟨w1.heap.size, 0, none⟩ = some (.string path) := block_cell (heap_alloc_new w1 _)
    have c1 : (w1.alloc (.cells #[.string path, .string ⟨#[]⟩] 41)).cell? ⟨w1.heap.size, 1, none⟩ = some (.string ⟨#[]⟩) := block_cell (heap_alloc_new w1 _)
    have c2 : (w1.alloc (.cells #[.string path, .string ⟨#[]⟩] 41)).cell? ⟨S, 2, none⟩ = some (.slice ip sp.length ic) := by rw [← s2]; exact ((Keep.refl (fun _ => False) w1).alloc _).cell (fun h => h) s2
    have hS0 : S < (w1.alloc (.cells #[.string path, .string ⟨#[]⟩] 41)).heap.size := by rw [World.size_alloc]; omega
    have hs0 : w1.heap.size < (w1.alloc (.cells #[.string path, .string ⟨#[]⟩] 41)).heap.size := by rw [World.size_alloc]; omega
    clear HKey hne
    go_upto_region 5 with fail
    generalize w1.alloc (.cells #[.string path, .string ⟨#[]⟩] 41) = W0 at H1 c0 c1 c2 hS0 hs0 ⊢
    have H5 := Lib.hid (fun W W2 v2 g1 g2 g3 e1 e2 e3 e4 => (H1.out W e1 e2 e3 e4).2.2.2.2.1 W2 v2 g1 g2 g3)
    go_region_law (refine step_is_append _ (.tmp 23) (.tmp 25) 42 rfl ?_; refine step_append_fresh _ rfl (.tmp 23) (.tmp 25) 42 rfl N 41 i0 (.agg #[.string ⟨#[]⟩, .string ⟨#[]⟩]) 2 32 Tryd.underlying42 hi hz0 hz1 hz2 rfl (by decide) (.slice ip sp.length ic) sp.length (pairCells sp) rfl (H1.out _ rfl rfl rfl rfl).1 ⟨W0.heap.size, 0, none⟩ 1 1 [Value.string path, Value.string ⟨#[]⟩] rfl rfl (H1.out _ rfl rfl rfl rfl).2.1 (by intro u hu; simp at hu; rcases hu with rfl | rfl <;> rfl) (by unfold maxLen; omega) (by omega) (H1.out _ rfl rfl rfl rfl).2.2.2.2.2 ?_; intro v2 w2 g1 g2 g3; obtain ⟨pp, cc, rfl⟩ := slice_of_own g1; have gc := cell_grown g2 hne0 (H1.out _ rfl rfl rfl rfl).2.2.1; have gf := free_grown g2 hne0 (H1.out _ rfl rfl rfl rfl).2.2.2.1)
    all_goals
      go_wp2
      go_ret
      exact H5.out _ _ _ g1 g2 g3 rfl rfl rfl rfl
  · have hb1 := str_no hne
    have H1 := Lib.hid (HKey.out nm (w1.alloc (.cells #[.string path, .string nm] 41)) ((Keep.refl _ _).alloc _) (by unfold aliasOf; rw [if_neg hne]))
    have c0 : (w1.alloc (.cells #[.string path, .string nm] 41)).cell? ⟨w1.heap.size, 0, none⟩ = some (.string path) := block_cell (heap_alloc_new w1 _)
    have c1 : (w1.alloc (.cells #[.string path, .string nm] 41)).cell? ⟨w1.heap.size, 1, none⟩ = some (.string nm) := block_cell (heap_alloc_new w1 _)
    have c2 : (w1.alloc (.cells #[.string path, .string nm] 41)).cell? ⟨S, 2, none⟩ = some (.slice ip sp.length ic) := by rw [← s2]; exact ((Keep.refl (fun _ => False) w1).alloc _).cell (fun h => h) s2
    have hS0 : S < (w1.alloc (.cells #[.string path, .string nm] 41)).heap.size := by rw [World.size_alloc]; omega
    have hs0 : w1.heap.size < (w1.alloc (.cells #[.string path, .string nm] 41)).heap.size := by rw [World.size_alloc]; omega
    clear HKey hne
    go_upto_region 5 with fail
    generalize w1.alloc (.cells #[.string path, .string nm] 41) = W0 at H1 c0 c1 c2 hS0 hs0 ⊢
    have H5 := Lib.hid (fun W W2 v2 g1 g2 g3 e1 e2 e3 e4 => (H1.out W e1 e2 e3 e4).2.2.2.2.1 W2 v2 g1 g2 g3)
    go_region_law (refine step_is_append _ (.tmp 23) (.tmp 25) 42 rfl ?_; refine step_append_fresh _ rfl (.tmp 23) (.tmp 25) 42 rfl N 41 i0 (.agg #[.string ⟨#[]⟩, .string ⟨#[]⟩]) 2 32 Tryd.underlying42 hi hz0 hz1 hz2 rfl (by decide) (.slice ip sp.length ic) sp.length (pairCells sp) rfl (H1.out _ rfl rfl rfl rfl).1 ⟨W0.heap.size, 0, none⟩ 1 1 [Value.string path, Value.string nm] rfl rfl (H1.out _ rfl rfl rfl rfl).2.1 (by intro u hu; simp at hu; rcases hu with rfl | rfl <;> rfl) (by unfold maxLen; omega) (by omega) (H1.out _ rfl rfl rfl rfl).2.2.2.2.2 ?_; intro v2 w2 g1 g2 g3; obtain ⟨pp, cc, rfl⟩ := slice_of_own g1; have gc := cell_grown g2 hne0 (H1.out _ rfl rfl rfl rfl).2.2.1; have gf := free_grown g2 hne0 (H1.out _ rfl rfl rfl rfl).2.2.2.1)
    all_goals
      go_wp2
      go_ret
      exact H5.out _ _ _ g1 g2 g3 rfl rfl rfl rfl
end Go.Proofs.Qxb6604462aDoor
