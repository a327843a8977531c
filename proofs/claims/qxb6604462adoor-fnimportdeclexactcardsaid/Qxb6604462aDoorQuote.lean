/-
  seat b6604462aD: strconv.Quote at plain ASCII only adds quotes; the clone and the sort of the imports.
-/
import Derived.Test.Qxb6604462aDoorScope
import Derived.Laws.RangeString
namespace Go.Proofs.Qxb6604462aDoor
open Go Go.RowKit

theorem esc_plain (T : Lib.PrintTabs) (b : UInt8) (h : plainB b) : Lib.escRune T (b.toNat : Int) = [(b.toNat : Int)] := by
  obtain ⟨h1, h2, h3, h4⟩ := h
  have n3 : (b.toNat : Int) ≠ 34 := fun e => h3 (UInt8.toNat_inj.1 (by have : (34 : UInt8).toNat = 34 := rfl; omega))
  have n4 : (b.toNat : Int) ≠ 92 := fun e => h4 (UInt8.toNat_inj.1 (by have : (92 : UInt8).toNat = 92 := rfl; omega))
  unfold Lib.escRune
  rw [if_neg (by omega)]
  have hp : Lib.isPrintR T (b.toNat : Int) = true := by
    unfold Lib.isPrintR
    rw [if_pos (by omega)]
    unfold Lib.isPrintLatin
    have a1 : decide ((32 : Int) ≤ (b.toNat : Int)) = true := decide_eq_true (by omega)
    have a2 : decide ((b.toNat : Int) ≤ 126) = true := decide_eq_true (by omega)
    rw [a1, a2]
    rfl
  rw [if_pos hp]
  unfold Lib.encodeRuneZ
  simp
  omega

theorem quote_from (T : Lib.PrintTabs) : ∀ (n : Nat) (s : ByteArray), s.size = n → (∀ b ∈ s.data.toList, plainB b) → Lib.quoteFrom T n s = s.data.toList.map (fun b => (b.toNat : Int))
  | 0, s, hn, _ => by
    have : s.data.toList = [] := List.eq_nil_of_length_eq_zero (by rw [← Lib.size_eq]; exact hn)
    rw [this]
    rfl
  | n + 1, s, hn, hp => by
    have h0 : 0 < s.size := by omega
    have hcons : s.data.toList = s[0] :: s.data.toList.drop 1 := by
      have := List.drop_eq_getElem_cons (l := s.data.toList) (i := 0) (by rw [← Lib.size_eq]; exact h0)
      rw [List.drop_zero] at this
      exact this
    have hb : plainB s[0] := hp _ (by rw [hcons]; simp)
    have hd := decode_ascii s 0 h0 (by have := hb.2.1; omega)
    rw [Lib.quoteFrom_step T (n + 1) s h0 (by omega), Lib.quoteStep_good T s (by rw [hd]; intro h; have := hb.2.1; simp at h; omega), hd]
    show Lib.escRune T ((s[0].toNat : Nat) : Int) ++ Lib.quoteFrom T n (s.extract 1 s.size) = _
    have he : (s.extract 1 s.size).data.toList = s.data.toList.drop 1 := Lib.extract_to_end s 1
    rw [esc_plain T _ hb, quote_from T n (s.extract 1 s.size) (by rw [Lib.size_eq, he, List.length_drop, ← Lib.size_eq]; omega) (fun b hb' => hp b (by rw [he] at hb'; exact List.mem_of_mem_drop hb')), he]
    conv => rhs; rw [hcons]
    simp

theorem quote_plain (T : Lib.PrintTabs) (s : ByteArray) (h : ∀ b ∈ s.data.toList, plainB b) : (strOfNums (Lib.quoteZ T s)).data.toList = 34 :: (s.data.toList ++ [34]) := by
  rw [strOfNums_data]
  unfold Lib.quoteZ
  rw [quote_from T _ s rfl h]
  have e : ((fun n : Int => UInt8.ofNat n.toNat) ∘ fun b : UInt8 => (b.toNat : Int)) = id := by
    funext b
    simp
  simp [e]

open Go.Sort

/-- slices.Clone of a row of pairs that is not nil. -/
def ClonePost (sp : List Ent) (w : World) (e : Ending) (w' : World) : Prop := ∃ (g cap : Nat) (cur : Array Value), e = .returned (.slice (some ⟨g, 0, none⟩) sp.length cap) ∧ w.heap.size ≤ g ∧ w'.heap[g]? = some (.cells cur 41 (0, 0)) ∧ cur.toList.take (sp.length * 2) = pairCells sp ∧ Keep (fun _ => False) w w'

set_option maxRecDepth 100000 in
set_option maxHeartbeats 2000000 in
theorem clone18 (N : Nat) (sp : List Ent) (iv : Value) (w : World) (hn : 0 < sp.length) (hl : sp.length ≤ 1048576) (h : w.ownsRow N 41 2 iv sp.length (pairCells sp)) :
    Calls Tryd.prog 18 #[iv] w fun e w' => ClonePost sp w e w' := by
  obtain ⟨i0, hi, hz0, hz1, hz2⟩ := infoSpec
  rcases h.2 with ⟨_, h0⟩ | ⟨g, cap, cur, rfl, hb, hg, hnc, hcm, hcs, htk⟩
  · omega
  have hq := not_nil42 ⟨g, 0, none⟩ sp.length cap
  have hgl := block_lt hg
  have hnews : ∀ (W : World), Keep (fun _ => False) w W → ∀ j u, (pairCells sp)[j]? = some u → W.cell? ((⟨g, 0, none⟩ : Addr).add j) = some u := fun W hW j u hj => by
    have hj2 : j < sp.length * 2 := by rw [← pair_length]; exact (List.getElem?_eq_some_iff.1 hj).1
    have e1 : (⟨g, 0, none⟩ : Addr).add j = ⟨g, j, none⟩ := by rw [Addr.add_lit, Nat.zero_add]
    rw [e1]
    refine hW.cellA (a := ⟨g, j, none⟩) (fun h => h) ?_
    rw [block_cell hg]
    rw [← htk, List.getElem?_take_of_lt hj2, Array.getElem?_toList] at hj
    exact hj
  have HNews := Lib.hid hnews
  have hone : ∀ u ∈ pairCells sp, u.oneCell' = true := fun u hu => by
    obtain ⟨e, _, he⟩ := List.mem_flatMap.1 hu
    simp at he
    rcases he with rfl | rfl <;> rfl
  have HOne := Lib.hid hone
  clear hnews hone htk hcs hg h
  go_enter Tryd.func18, Tryd.ntmps18
  go_wp2_with (at_builtin; refine wpList_append_fresh _ rfl _ _ 42 rfl w.heap.size 41 i0 (.agg #[.string ⟨#[]⟩, .string ⟨#[]⟩]) 2 32 Tryd.underlying42 hi hz0 hz1 hz2 rfl (by decide) (.slice (some ⟨w.heap.size, 0, none⟩) 0 0) 0 [] rfl ⟨rfl, Or.inr ⟨w.heap.size, 0, #[], rfl, Nat.le_refl _, heap_alloc_new w _, Nat.le_refl _, Nat.zero_le _, rfl, rfl⟩⟩ ⟨g, 0, none⟩ sp.length cap (pairCells sp) rfl (pair_length sp) (HNews.out _ ((Keep.refl _ w).alloc _)) HOne.out (by unfold maxLen; omega) (by omega) (by simp) ?_)
  intro v1 w1 hown1 hgrow hfr
  have hk1 : Keep (fun _ => False) w w1 := ((Keep.refl (fun _ => False) w).alloc (.cells #[] 41)).trans' (keep_grown hgrow) (fun k hk => by
    simp [Value.ownBlock] at hk
    omega)
  rcases hown1.2 with ⟨_, h0⟩ | ⟨g1, cap1, cur1, rfl, hb1, hg1, hnc1, hcm1, hcs1, htk1⟩
  · omega
  have HG := Lib.hid hg1
  have HT := Lib.hid htk1
  have HK1 := Lib.hid hk1
  clear hg1 htk1 hk1 hown1 hgrow hfr hcs1
  go_wp2
  go_ret
  exact ⟨g1, cap1, cur1, by simp, hb1, HG.out, by have := HT.out; simpa using this, HK1.out⟩

def encS (x : Ent) : List Value := [.string x.1, .string x.2]
theorem enc_one : ∀ x : Ent, ∀ v ∈ encS x, v.oneCell' = true := fun x v hv => by simp [encS] at hv; rcases hv with rfl | rfl <;> rfl
def cmpP (x y : Ent) : Int := Lib.compareBytes x.1.data.toList y.1.data.toList
theorem ltOf_cmp : ltOf cmpP = bltP := by
  funext x y
  exact cmp_lt _ _

set_option maxHeartbeats 1000000 in
theorem closure20 (x y : Ent) (W : World) : Calls Tryd.prog 20 #[.agg #[.string x.1, .string x.2], .agg #[.string y.1, .string y.2]] W fun e w' => e = .returned (.int .i64 (cmpP x y)) ∧ ∃ q os', w' = grow (W.drewN q) os' := by
  have hcon := fun W' => Tryd.strings_Compare x.1 y.1 W'
  change ∀ W', Calls Tryd.prog 21 _ W' (fun e w' => e = .returned (.int .i64 (cmpP x y)) ∧ w' = W') at hcon
  generalize cmpP x y = r at hcon ⊢
  go_enter Tryd.func20, Tryd.ntmps20
  go_wp2_with (go_at_call 21; refine (hcon _).mono ?_; rintro e w' ⟨rfl, rfl⟩)
  go_ret
  exact ⟨rfl, 0, _, by rw [alloc_eq_grow, alloc_eq_grow, grow_grow]; rfl⟩

theorem isAgg41 : ∀ w, (isAgg 41).run Tryd.prog w = .ok true w := fun w => by kernel_rfl
theorem sizeOf41 : ∀ w, (Go.sizeOf 41).run Tryd.prog w = .ok 2 w := fun w => by kernel_rfl

theorem keep_sort (d : Array Ent) (w : World) (blk off n : Nat) (os : Array Obj) : Keep (fun k => k = blk) w (sortWorldK encS 2 w blk off n d os) :=
  ⟨rfl, rfl, rfl, size_sortWorldK_c encS 2 w blk off n d os, fun k hk hm => by
    show ((w.heap.modify blk _) ++ os)[k]? = _
    rw [Array.getElem?_append_left (by simpa using hk), Array.getElem?_modify, if_neg (fun e => hm e.symm)]⟩

/-- slices.SortFunc at the clone. -/
def SortPost (sp : List Ent) (g : Nat) (w : World) (e : Ending) (w' : World) : Prop := e = .returned (.tuple #[]) ∧ ∃ d : List Ent, d.Perm sp ∧ d.Pairwise (fun x y => bltP y x = false) ∧ (∀ i (h : i < d.length), w'.cell? ⟨g, i * 2, none⟩ = some (.string d[i].1) ∧ w'.cell? ⟨g, i * 2 + 1, none⟩ = some (.string d[i].2)) ∧ Keep (fun k => k = g) w w'

theorem sort19 (sp : List Ent) (g cap : Nat) (cur : Array Value) (w : World) (hl : sp.length ≤ 1048576) (hg : w.heap[g]? = some (.cells cur 41 (0, 0))) (htk : cur.toList.take (sp.length * 2) = pairCells sp) :
    Calls Tryd.prog 19 #[.slice (some ⟨g, 0, none⟩) sp.length cap, .func (.func 20) #[] #[]] w fun e w' => SortPost sp g w e w' := by
  have eg : ∀ args w, (callFunc 20 args).run Tryd.prog w = .ok (.enter 20 args) w := enters_of Tryd.func20 (by kernel_rfl) rfl
  have hsz : sp.toArray.size = sp.length := by simp
  have hH : HoldsK encS 2 w g 0 sp.toArray := fun j hj => by
    rw [size_flatK, hsz] at hj
    rw [get_flatK _ _ _ _ (by rw [hsz]; exact hj), block_cell hg, Nat.zero_add]
    refine ⟨?_, block_free hg⟩
    have h1 : cur[j]? = (pairCells sp)[j]? := by rw [← htk, List.getElem?_take_of_lt hj, Array.getElem?_toList]
    have h3 := pair_get sp (j / 2) (by omega)
    have hd : sp.toArray[j / 2]! = sp[j / 2]'(by omega) := by
      rw [getElem!_pos sp.toArray (j / 2) (by rw [hsz]; omega)]
      simp
    rw [h1, hd]
    rcases Nat.mod_two_eq_zero_or_one j with h | h
    · rw [show (pairCells sp)[j]? = (pairCells sp)[j / 2 * 2]? by rw [show j / 2 * 2 = j by omega], h3.1, h]
      rfl
    · rw [show (pairCells sp)[j]? = (pairCells sp)[j / 2 * 2 + 1]? by rw [show j / 2 * 2 + 1 = j by omega], h3.2, h]
      rfl
  have hcon := AnyQ.slices_SortFunc Tryd.laysSort 2 isAgg41 sizeOf41 encS (fun _ => rfl) enc_one cmpP (by rw [ltOf_cmp]; exact u8_swo) 20 #[] g 0 cap sp.toArray w eg (fun _ _ _ _ x y => closure20 x y _) hH (block_lt hg) (by rw [hsz]; omega)
  rw [hsz, ltOf_cmp] at hcon
  refine Calls.mono (show Calls Tryd.prog 19 _ _ _ from hcon) ?_
  rintro e w' ⟨rfl, d', n, os, ⟨hd1, hd2, hd3⟩, hso, rfl⟩
  rw [hsz] at hd1
  have hfull : d'.extract 0 sp.length = d' := by rw [← hd1]; exact Array.extract_size
  have hfull2 : sp.toArray.extract 0 sp.length = sp.toArray := by rw [← hsz]; exact Array.extract_size
  rw [hfull, hfull2] at hd3
  refine ⟨rfl, d'.toList, hd3, pairwise_of (by rw [hd1]; exact hso), fun i hi => ?_, keep_sort _ _ _ _ _ _⟩
  have hH2 := holdsK_sortWorldK_c encS 2 w g 0 sp.toArray d' n os hH (block_lt hg) (by rw [hd1, hsz])
  have hi' : i < d'.size := by simpa using hi
  have a := (hH2.cell (i := i) (c := 0) hi' (by omega)).1
  have b := (hH2.cell (i := i) (c := 1) hi' (by omega)).1
  rw [getElem!_pos d' i hi', Nat.zero_add] at a b
  exact ⟨a, b⟩

end Go.Proofs.Qxb6604462aDoor
