/-
  seat b6604462aD: the two clones, walked.
-/
import Derived.Test.Qxb6604462aDoorStd
namespace Go.Proofs.Qxb6604462aDoor
open Go Go.RowKit

theorem Keep.cellA {m : Nat → Prop} {w w' : World} (h : Keep m w w') {a : Addr} {v : Value} (hm : ¬ m a.block) (hc : w.cell? a = some v) : w'.cell? a = some v := by
  have hb := h.block a.block (World.block_lt_of_cell? w a hc) hm
  rw [← hc]
  simp only [World.cell?, hb]

theorem info_of {t : TypeId} {z : Value} {sz by_ : Nat} (h : (Tryd.prog.info? t).map (fun i => (i.zero, i.size, i.bytes)) = some (some z, sz, by_)) : ∃ i0 : TypeInfo, Tryd.prog.info? t = some i0 ∧ i0.zero = some z ∧ i0.size = sz ∧ i0.bytes = by_ := by
  cases hh : Tryd.prog.info? t with
  | none => rw [hh] at h; cases h
  | some i => rw [hh] at h; simp at h; exact ⟨i, rfl, h.1, h.2.1, h.2.2⟩
theorem infoStr : ∃ i0 : TypeInfo, Tryd.prog.info? 9 = some i0 ∧ i0.zero = some (.string ⟨#[]⟩) ∧ i0.size = 1 ∧ i0.bytes = 16 := info_of (by kernel_rfl)
theorem infoInt : ∃ i0 : TypeInfo, Tryd.prog.info? 3 = some i0 ∧ i0.zero = some (.int .i64 0) ∧ i0.size = 1 ∧ i0.bytes = 8 := info_of (by kernel_rfl)
theorem infoByte : ∃ i0 : TypeInfo, Tryd.prog.info? 5 = some i0 ∧ i0.zero = some (.int .u8 0) ∧ i0.size = 1 ∧ i0.bytes = 1 := info_of (by kernel_rfl)
theorem infoImp : ∃ i0 : TypeInfo, Tryd.prog.info? 33 = some i0 ∧ i0.zero = some (.agg #[.string ⟨#[]⟩, .string ⟨#[]⟩]) ∧ i0.size = 2 ∧ i0.bytes = 32 := info_of (by kernel_rfl)
theorem infoSpec : ∃ i0 : TypeInfo, Tryd.prog.info? 41 = some i0 ∧ i0.zero = some (.agg #[.string ⟨#[]⟩, .string ⟨#[]⟩]) ∧ i0.size = 2 ∧ i0.bytes = 32 := info_of (by kernel_rfl)

/-- make([]string, n). -/
theorem made_strs (n : Nat) (hn : n ≤ 1048576) : ∃ U : Array Value, U.size = n ∧ (∀ i, i < n → U[i]? = some (.string ⟨#[]⟩)) ∧ ∀ W : World, (Instr.makeSlice 23 (.int .i64 n) (.int .i64 n)).run Tryd.prog W = .ok (.slice (some ⟨W.heap.size, 0, none⟩) n n) (W.alloc (.cells U 9)) := by
  obtain ⟨i0, hi0, hz0, hz1, hz2⟩ := infoStr
  refine ⟨madeCells (Value.string ⟨#[]⟩).cells (n * i0.size), by rw [size_madeCells, hz1, Nat.mul_one], fun i hi => ?_, fun W => ?_⟩
  · rw [hz1, Nat.mul_one]
    simp [madeCells, hi, Value.cells, Nat.mod_one]
  · have := run_makeSlice W 23 9 i0 (.string ⟨#[]⟩) Tryd.underlying23 hi0 hz0 .i64 .i64 n n (by omega) (by omega) (by rw [hz1]; simp; omega) (by rw [hz2]; omega) (by omega)
    simpa using this
theorem made_ints (n : Nat) (hn : n ≤ 1048576) : ∃ U : Array Value, U.size = n ∧ (∀ i, i < n → U[i]? = some (.int .i64 0)) ∧ ∀ W : World, (Instr.makeSlice 53 (.int .i64 n) (.int .i64 n)).run Tryd.prog W = .ok (.slice (some ⟨W.heap.size, 0, none⟩) n n) (W.alloc (.cells U 3)) := by
  obtain ⟨i0, hi0, hz0, hz1, hz2⟩ := infoInt
  refine ⟨madeCells (Value.int .i64 0).cells (n * i0.size), by rw [size_madeCells, hz1, Nat.mul_one], fun i hi => ?_, fun W => ?_⟩
  · rw [hz1, Nat.mul_one]
    simp [madeCells, hi, Value.cells, Nat.mod_one]
  · have := run_makeSlice W 53 3 i0 (.int .i64 0) Tryd.underlying53 hi0 hz0 .i64 .i64 n n (by omega) (by omega) (by rw [hz1]; simp; omega) (by rw [hz2]; omega) (by omega)
    simpa using this
theorem made_imps (n : Nat) (hn : n ≤ 1048576) : ∃ U : Array Value, U.size = n * 2 ∧ ∀ W : World, (Instr.makeSlice 22 (.int .i64 n) (.int .i64 n)).run Tryd.prog W = .ok (.slice (some ⟨W.heap.size, 0, none⟩) n n) (W.alloc (.cells U 33)) := by
  obtain ⟨i0, hi0, hz0, hz1, hz2⟩ := infoImp
  refine ⟨madeCells (Value.agg #[.string ⟨#[]⟩, .string ⟨#[]⟩]).cells (n * i0.size), by rw [size_madeCells, hz1], fun W => ?_⟩
  have := run_makeSlice W 22 33 i0 _ Tryd.underlying22 hi0 hz0 .i64 .i64 n n (by omega) (by omega) (by rw [hz1]; simp; omega) (by rw [hz2]; omega) (by omega)
  simpa using this

abbrev strs (ls : List ByteArray) : List Value := ls.map Value.string

theorem own_strs {w : World} {N g : Nat} {cs : Array Value} {ds : List ByteArray} (hg : w.heap[g]? = some (.cells cs 9 (0, 0))) (hN : N ≤ g) (hs : cs.size = ds.length) (hl : ds.length ≤ 1048576) (hc : ∀ i (h : i < ds.length), cs[i]? = some (.string ds[i])) :
    w.ownsRow N 9 1 (.slice (some ⟨g, 0, none⟩) ds.length ds.length) ds.length (strs ds) := by
  refine ⟨by simp, Or.inr ⟨g, ds.length, cs, rfl, hN, hg, Nat.le_refl _, by unfold maxLen; omega, by omega, ?_⟩⟩
  rw [Nat.mul_one]
  apply List.ext_getElem?
  intro i
  by_cases hi : i < ds.length
  · rw [List.getElem?_take_of_lt hi, Array.getElem?_toList, hc i hi]
    simp [strs, hi]
  · rw [List.getElem?_eq_none (by simp; omega), List.getElem?_eq_none (by simp; omega)]

theorem nil23 (W : World) : (binOp .eql 23 (.slice none 0 0) (.slice none 0 0)).run Tryd.prog W = .ok (.bool true) W := by kernel_rfl
theorem not_nil23 (a : Addr) (n c : Nat) (W : World) : (binOp .eql 23 (.slice (some a) n c) (.slice none 0 0)).run Tryd.prog W = .ok (.bool false) W := by kernel_rfl
theorem nil22 (W : World) : (binOp .eql 22 (.slice none 0 0) (.slice none 0 0)).run Tryd.prog W = .ok (.bool true) W := by kernel_rfl
theorem not_nil22 (a : Addr) (n c : Nat) (W : World) : (binOp .eql 22 (.slice (some a) n c) (.slice none 0 0)).run Tryd.prog W = .ok (.bool false) W := by kernel_rfl
theorem nil42 (W : World) : (binOp .eql 42 (.slice none 0 0) (.slice none 0 0)).run Tryd.prog W = .ok (.bool true) W := by kernel_rfl
theorem not_nil42 (a : Addr) (n c : Nat) (W : World) : (binOp .eql 42 (.slice (some a) n c) (.slice none 0 0)).run Tryd.prog W = .ok (.bool false) W := by kernel_rfl

set_option maxRecDepth 100000 in
set_option maxHeartbeats 2000000 in
theorem zzCloneStrings (p : Option Addr) (c : Nat) (ds : List ByteArray) (w : World) (hl : ds.length ≤ 1048576) (hd : Strs w p ds) (hnil : p = none → ds.length = 0 ∧ c = 0) :
    Calls Tryd.prog 8 #[.slice p ds.length c] w fun e w' => (∃ v, e = .returned v ∧ w'.ownsRow w.heap.size 9 1 v ds.length (strs ds)) ∧ Keep (fun _ => False) w w' := by
  have HD := Lib.hid hd
  clear hd
  cases p with
  | none =>
    obtain ⟨h0, rfl⟩ := hnil rfl
    have hds : ds = [] := List.length_eq_zero_iff.1 h0
    subst hds
    have hq := nil23
    go_enter Tryd.func8, Tryd.ntmps8
    go_wp2
    go_ret
    exact ⟨⟨_, rfl, World.ownsRow_nil _ _ _ _⟩, Keep.refl _ _⟩
  | some a =>
    clear hnil
    obtain ⟨U, hU, _, hmk⟩ := made_strs ds.length hl
    obtain ⟨N, hN⟩ : ∃ N, N = w.heap.size := ⟨_, rfl⟩
    rw [← hN]
    have HN := Lib.hid hN
    have HU := Lib.hid hU
    have hq := not_nil23 a ds.length c
    clear hU hN
    go_enter Tryd.func8, Tryd.ntmps8
    go_wp2_with fail
    rw [← HN.out]
    go_loopg [4] ds.length (fun g i wx => ∃ (k : Nat) (cs : Array Value), i = .int .i64 k ∧ k + g = ds.length ∧ wx.heap[N]? = some (.cells cs 9 (0, 0)) ∧ cs.size = ds.length ∧ (∀ i (h : i < ds.length), i < k → cs[i]? = some (.string ds[i])) ∧ Keep (fun _ => False) w wx)
    case atStart => exact ⟨0, U, rfl, by omega, by rw [HN.out]; exact heap_alloc_new w _, HU.out, (fun i _ h => by omega), (Keep.refl _ w).alloc _⟩
    case round =>
      obtain ⟨k, cs, rfl, hk, hblk, hsz, hall, hkp⟩ := hrel
      have HK := Lib.hid hk
      have HAll := Lib.hid hall
      have HKp := Lib.hid hkp
      have HBlk := Lib.hid hblk
      have HSz := Lib.hid hsz
      clear hk hall hkp hblk hsz
      by_cases hkn : k < ds.length
      · have hki : (k : Int) < (ds.length : Int) := by omega
        obtain ⟨a', ha, hc⟩ := HD.out k hkn
        injection ha with ha
        subst ha
        have hc' := HKp.out.cellA (fun h => h) hc
        obtain ⟨u, hu⟩ : ∃ u, u = ds[k] := ⟨_, rfl⟩
        rw [← hu] at hc'
        have HUk := Lib.hid hu
        have hold : ∃ o, wr.cell? ⟨N, k, none⟩ = some o := by
          rw [block_cell HBlk.out]
          exact ⟨cs[k]'(by rw [HSz.out]; exact hkn), Array.getElem?_eq_getElem _⟩
        obtain ⟨o, hold⟩ := hold
        have hfree : wr.frozen? ⟨N, k, none⟩ = false := block_free HBlk.out
        clear hc hu
        go_wp2
        go_roundg (gk - 1)
        case measure => have := HK.out; omega
        case rel =>
          refine ⟨k + 1, cs.setIfInBounds k (.string u), by go_num, by have := HK.out; omega, block_setCell HBlk.out _, by rw [Array.size_setIfInBounds]; exact HSz.out, fun i h hi => ?_, HKp.out.trans' (Keep.setCell (m := fun j => j = N) (Keep.refl _ _) rfl _) (fun j hj => Or.inr (by rw [hj, HN.out]; exact Nat.le_refl _))⟩
          by_cases hik : i = k
          · subst hik
            rw [Array.getElem?_setIfInBounds_self_of_lt (by rw [HSz.out]; exact hkn), HUk.out]
          · rw [Array.getElem?_setIfInBounds_ne (by omega)]
            exact HAll.out i h (by omega)
      · have hki : ¬ (k : Int) < (ds.length : Int) := by omega
        go_wp2
        go_ret
        exact ⟨⟨_, rfl, own_strs HBlk.out (Nat.le_refl _) HSz.out hl (fun i h => HAll.out i h (by omega))⟩, HKp.out⟩

/-- The cells of pairs. -/
abbrev pairCells (es : List Ent) : List Value := es.flatMap (fun e => [.string e.1, .string e.2])

theorem pair_get : ∀ (es : List Ent) (i : Nat) (h : i < es.length), (pairCells es)[i * 2]? = some (.string es[i].1) ∧ (pairCells es)[i * 2 + 1]? = some (.string es[i].2)
  | [], i, h => by simp at h
  | e :: es, 0, h => by simp [pairCells]
  | e :: es, i + 1, h => by
    have := pair_get es i (by simp at h; omega)
    rw [show (i + 1) * 2 = i * 2 + 2 by omega]
    simpa [pairCells] using this
theorem pair_length (es : List Ent) : (pairCells es).length = es.length * 2 := by
  induction es with
  | nil => rfl
  | cons e es ih => simp only [pairCells, List.flatMap_cons, List.length_append, List.length_cons, List.length_nil] at *; omega

theorem own_pairs {w : World} {N g : Nat} {t : TypeId} {cs : Array Value} {es : List Ent} (hg : w.heap[g]? = some (.cells cs t (0, 0))) (hN : N ≤ g) (hs : cs.size = es.length * 2) (hl : es.length ≤ 1048576) (hc : ∀ i (h : i < es.length), cs[i * 2]? = some (.string es[i].1) ∧ cs[i * 2 + 1]? = some (.string es[i].2)) :
    w.ownsRow N t 2 (.slice (some ⟨g, 0, none⟩) es.length es.length) es.length (pairCells es) := by
  refine ⟨pair_length es, Or.inr ⟨g, es.length, cs, rfl, hN, hg, Nat.le_refl _, by unfold maxLen; omega, hs, ?_⟩⟩
  apply List.ext_getElem?
  intro i
  by_cases hi : i < es.length * 2
  · rw [List.getElem?_take_of_lt hi, Array.getElem?_toList]
    have h2 := hc (i / 2) (by omega)
    have h3 := pair_get es (i / 2) (by omega)
    rcases Nat.mod_two_eq_zero_or_one i with h | h
    · rw [show i = i / 2 * 2 by omega, h3.1, h2.1]
    · rw [show i = i / 2 * 2 + 1 by omega, h3.2, h2.2]
  · rw [List.getElem?_eq_none (by simp; omega), List.getElem?_eq_none (by rw [pair_length]; omega)]

set_option maxRecDepth 100000 in
set_option maxHeartbeats 2000000 in
theorem zzCloneImps (p : Option Addr) (c : Nat) (es : List Ent) (w : World) (hl : es.length ≤ 1048576) (hd : Imps w p es) (hnil : p = none → es.length = 0 ∧ c = 0) :
    Calls Tryd.prog 7 #[.slice p es.length c] w fun e w' => (∃ v, e = .returned v ∧ w'.ownsRow w.heap.size 33 2 v es.length (pairCells es)) ∧ Keep (fun _ => False) w w' := by
  have HD := Lib.hid hd
  clear hd
  cases p with
  | none =>
    obtain ⟨h0, rfl⟩ := hnil rfl
    have hds : es = [] := List.length_eq_zero_iff.1 h0
    subst hds
    have hq := nil22
    go_enter Tryd.func7, Tryd.ntmps7
    go_wp2
    go_ret
    exact ⟨⟨_, rfl, World.ownsRow_nil _ _ _ _⟩, Keep.refl _ _⟩
  | some a =>
    clear hnil
    obtain ⟨U, hU, hmk⟩ := made_imps es.length hl
    obtain ⟨N, hN⟩ : ∃ N, N = w.heap.size := ⟨_, rfl⟩
    rw [← hN]
    have HN := Lib.hid hN
    have HU := Lib.hid hU
    have hq := not_nil22 a es.length c
    clear hU hN
    go_enter Tryd.func7, Tryd.ntmps7
    go_wp2_with fail
    rw [← HN.out]
    go_loopg [4] es.length (fun g i wx => ∃ (k : Nat) (cs : Array Value), i = .int .i64 k ∧ k + g = es.length ∧ wx.heap[N]? = some (.cells cs 33 (0, 0)) ∧ cs.size = es.length * 2 ∧ (∀ i (h : i < es.length), i < k → cs[i * 2]? = some (.string es[i].1) ∧ cs[i * 2 + 1]? = some (.string es[i].2)) ∧ Keep (fun _ => False) w wx)
    case atStart => exact ⟨0, U, rfl, by omega, by rw [HN.out]; exact heap_alloc_new w _, HU.out, (fun i _ h => by omega), (Keep.refl _ w).alloc _⟩
    case round =>
      obtain ⟨k, cs, rfl, hk, hblk, hsz, hall, hkp⟩ := hrel
      have HK := Lib.hid hk
      have HAll := Lib.hid hall
      have HKp := Lib.hid hkp
      have HBlk := Lib.hid hblk
      have HSz := Lib.hid hsz
      clear hk hall hkp hblk hsz
      by_cases hkn : k < es.length
      · have hki : (k : Int) < (es.length : Int) := by omega
        obtain ⟨a', ha, hc1, hc2⟩ := HD.out k hkn
        injection ha with ha
        subst ha
        have hc1' := HKp.out.cellA (fun h => h) hc1
        have hc2' := HKp.out.cellA (fun h => h) hc2
        obtain ⟨u, hu⟩ : ∃ u, u = es[k].1 := ⟨_, rfl⟩
        obtain ⟨v, hv⟩ : ∃ v, v = es[k].2 := ⟨_, rfl⟩
        rw [← hu] at hc1'
        rw [← hv] at hc2'
        have HUk := Lib.hid hu
        have HVk := Lib.hid hv
        have hold : ∃ o1 o2, wr.cell? ⟨N, k * 2, none⟩ = some o1 ∧ wr.cell? ⟨N, k * 2 + 1, none⟩ = some o2 := by
          rw [block_cell HBlk.out, block_cell HBlk.out]
          exact ⟨cs[k * 2]'(by rw [HSz.out]; omega), cs[k * 2 + 1]'(by rw [HSz.out]; omega), Array.getElem?_eq_getElem _, Array.getElem?_eq_getElem _⟩
        obtain ⟨o1, o2, hold1, hold2⟩ := hold
        have hfree1 : wr.frozen? ⟨N, k * 2, none⟩ = false := block_free HBlk.out
        have hfree2 : wr.frozen? ⟨N, k * 2 + 1, none⟩ = false := block_free HBlk.out
        clear hc1 hc2 hu hv
        go_wp2
        go_roundg (gk - 1)
        case measure => have := HK.out; omega
        case rel =>
          refine ⟨k + 1, (cs.setIfInBounds (k * 2) (.string u)).setIfInBounds (k * 2 + 1) (.string v), by go_num, by have := HK.out; omega, block_setCell (block_setCell HBlk.out _) _, by rw [Array.size_setIfInBounds, Array.size_setIfInBounds]; exact HSz.out, fun i h hi => ?_, HKp.out.trans' (Keep.setCell (m := fun j => j = N) (Keep.setCell (m := fun j => j = N) (Keep.refl _ _) rfl _) rfl _) (fun j hj => Or.inr (by rw [hj, HN.out]; exact Nat.le_refl _))⟩
          have hs2 := HSz.out
          by_cases hik : i = k
          · subst hik
            rw [Array.getElem?_setIfInBounds_ne (by omega), Array.getElem?_setIfInBounds_self_of_lt (by omega), Array.getElem?_setIfInBounds_self_of_lt (by rw [Array.size_setIfInBounds]; omega), HUk.out, HVk.out]
            exact ⟨rfl, rfl⟩
          · rw [Array.getElem?_setIfInBounds_ne (by omega), Array.getElem?_setIfInBounds_ne (by omega), Array.getElem?_setIfInBounds_ne (by omega), Array.getElem?_setIfInBounds_ne (by omega)]
            exact HAll.out i h (by omega)
      · have hki : ¬ (k : Int) < (es.length : Int) := by omega
        go_wp2
        go_ret
        exact ⟨⟨_, rfl, own_pairs HBlk.out (Nat.le_refl _) HSz.out hl (fun i h => HAll.out i h (by omega))⟩, HKp.out⟩
end Go.Proofs.Qxb6604462aDoor
