/-
  seat b6604708aD: (*bufio.Reader).fill over a strings.Reader, walked.
-/
import Derived.Test.Qxb6604708aDoorRead
import Derived.Deep.LoopGhost
import Derived.Handy
namespace Go.Proofs.Qxb6604708aDoor
open Go Go.RowKit

/-- A bufio.Reader (block N + 1) with a buffer of K bytes (block N + 2) over a strings.Reader (block N) of s: at place p of s; what it has read ahead lies in the buffer from r to e. -/
structure Bs (s : ByteArray) (N K p r e : Nat) (er : Value) (w : World) : Prop where
  S : ∃ prev : Int, w.heap[N]? = some (.cells #[.string s, .int .i64 (p + (e - r) : Nat), .int .i64 prev] 53 (0, 0))
  B : ∃ lb ls : Int, w.heap[N + 1]? = some (.cells #[.slice (some ⟨N + 2, 0, none⟩) K K, .iface 42 (.pointer (some ⟨N, 0, none⟩)), .int .i64 r, .int .i64 e, er, .int .i64 lb, .int .i64 ls] 65 (0, 0))
  U : ∃ U : Array Value, w.heap[N + 2]? = some (.cells U 5 (0, 0)) ∧ U.size = K ∧ (U.toList.drop r).take (e - r) = Lib.byteCells ((s.data.toList.drop p).take (e - r))
  le : p + (e - r) ≤ s.size
  re : r ≤ e
  eK : e ≤ K

theorem take_two (l : List UInt8) (p a c : Nat) : Lib.byteCells ((l.drop p).take a) ++ Lib.byteCells ((l.drop (p + a)).take c) = Lib.byteCells ((l.drop p).take (a + c)) := by
  rw [List.take_add, List.drop_drop, Lib.byteCells_append]

/-- What was read ahead, carried down to the buffer's head. -/
theorem row_down {U : List Value} {cs : List Value} {a : Nat} (hl : cs.length = a) : ((U.take 0 ++ (cs ++ U.drop (0 + cs.length))).drop 0).take a = cs := by
  simp [← hl]
/-- .. and what is read behind it. -/
theorem row_on {V bs ns : List Value} {a c : Nat} (h : (V.drop 0).take a = bs) (ha : a ≤ V.length) (hc : ns.length = c) : ((V.take a ++ (ns ++ V.drop (a + c))).drop 0).take (a + c) = bs ++ ns := by
  rw [List.drop_zero] at h
  rw [List.drop_zero, h]
  have hb : bs.length = a := by rw [← h, List.length_take]; omega
  rw [List.take_append, List.take_of_length_le (by omega), List.take_append, show a + c - bs.length - ns.length = 0 by omega, List.take_zero, List.append_nil, List.take_of_length_le (by omega)]

theorem addr_add (b o j : Nat) : (⟨b, o, none⟩ : Addr).add j = ⟨b, o + j, none⟩ := by
  unfold Addr.add
  split <;> simp_all

variable {P : Program}
/-- 'copy(dst, src)' between two slices, as one step of a region that draws its order. -/
theorem step_copy_row {ops : Array Oper} {o : Oper} {a : Act} {w : World} {K : Act → World → Prop} {Q : Exit → Act → World → Prop} {E : Prop}
    (hgd : o.guard = none) (d x : Operand) (dT sT : TypeId) (hop : o.op = Op.call { callee := Callee.builtin Builtin.copy, args := #[d, x], argTypes := #[dT, sT] })
    (elem : TypeId) (hu : P.underlying dT = some (.slice elem)) (hz : (P.info? elem).map (·.size) = some 1)
    (g off dLen dCap : Nat) (hd : a.eval d = .slice (some ⟨g, off, none⟩) dLen dCap) (ad : Addr) (sLen sCap : Nat) (hx : a.eval x = .slice (some ad) sLen sCap) (cur : Array Value) (t : TypeId) (cs : List Value) (hn : cs.length = Nat.min sLen dLen)
    (hg : w.heap[g]? = some (.cells cur t (0, 0))) (hsrc : ∀ j v, cs[j]? = some v → w.cell? (ad.add j) = some v) (hfit : off + cs.length ≤ cur.size) (h1 : ∀ v ∈ cs, v.oneCell' = true)
    (hK : K (a.put o.dst (goInt cs.length)) (w.setRow g (cur.toList.take off ++ (cs ++ cur.toList.drop (off + cs.length))).toArray)) :
    if Region.wanted o (yielded ops a.tmps) = true then Oper.wp P o a w K Q else E := by
  have hw : Region.wanted o (yielded ops a.tmps) = true := by simp [Region.wanted, hgd]
  rw [if_pos hw]
  have hrun := run_copy_row (P := P) w dT sT o.type elem g off dLen dCap ad sLen sCap cur t cs hu hz hg hn hsrc hfit h1
  rw [List.append_assoc] at hrun
  unfold Oper.wp
  simp [execOp, hop, resolve, invoke, builtin, hd, hx, hrun, Result.andThen]
  exact hK

/-- (*strings.Reader).Read at whatever place. -/
theorem read_any (s : ByteArray) (N i e K c : Nat) (prev : Int) (U : Array Value) (w : World) (ev er : Value) (hs : s.size ≤ 2000000) (hi : i ≤ s.size) (heK : e < K) (hc : c = Nat.min (s.size - i) (K - e))
    (hS : w.heap[N]? = some (.cells #[.string s, .int .i64 i, .int .i64 prev] 53 (0, 0))) (hU : w.heap[N + 2]? = some (.cells U 5 (0, 0))) (hUs : U.size = K)
    (hE : w.cell? ⟨1, 0, none⟩ = some ev) (hev : ∃ t p, ev = .iface t p) (h1 : i < s.size → er = .nilIface) (h2 : ¬ i < s.size → er = ev) :
    Calls Tryd.prog 68 #[.pointer (some ⟨N, 0, none⟩), .slice (some ⟨N + 2, e, none⟩) (K - e) (K - e)] w fun r w' => r = .returned (.tuple #[.int .i64 c, er]) ∧
      (∃ pv : Int, w'.heap[N]? = some (.cells #[.string s, .int .i64 (i + c : Nat), .int .i64 pv] 53 (0, 0))) ∧
      w'.heap[N + 2]? = some (.cells (U.toList.take e ++ (Lib.byteCells ((s.data.toList.drop i).take c) ++ U.toList.drop (e + c))).toArray 5 (0, 0)) ∧ Keep (fun k => k = N ∨ k = N + 2) w w' := by
  by_cases h : i < s.size
  · rw [h1 h]
    exact (read_some s N i e K c prev U w hs h heK hc hS hU hUs).mono fun x w' ⟨e1, e2, e3, e4⟩ => ⟨e1, ⟨_, e2⟩, e3, e4⟩
  · rw [h2 h]
    have hc0 : c = 0 := by rw [hc, show s.size - i = 0 by omega]; exact Nat.zero_min _
    subst hc0
    refine (read_eof s N i prev _ w ev (by omega) hS hE hev).mono ?_
    rintro x w' ⟨e1, e2⟩
    refine ⟨e1, ⟨prev, ?_⟩, ?_, e2.mono (fun _ h => h.elim)⟩
    · rw [e2.block N (block_lt hS) (fun h => h)]; exact hS
    · rw [e2.block (N + 2) (block_lt hU) (fun h => h), hU]
      simp [Lib.byteCells]

/-- How fill leaves things. -/
def Filled (s : ByteArray) (N K p a : Nat) (ev : Value) (w w' : World) : Prop := (∃ c er, c = Nat.min (s.size - (p + a)) (K - a) ∧ (p + a < s.size → er = .nilIface) ∧ (¬ p + a < s.size → er = ev) ∧ Bs s N K p 0 (a + c) er w') ∧ Keep (fun k => k = N ∨ k = N + 1 ∨ k = N + 2) w w'

set_option maxRecDepth 100000 in
set_option maxHeartbeats 4000000 in
theorem fill (s : ByteArray) (N K p r e a : Nat) (w : World) (ev : Value) (ha : a = e - r) (hs : s.size ≤ 2000000) (hK : K ≤ 2000000) (h : Bs s N K p r e .nilIface w) (hroom : a < K) (hE : w.cell? ⟨1, 0, none⟩ = some ev) (hev : ∃ t p, ev = .iface t p) (hN : 1 < N) :
    Calls Tryd.prog 42 #[.pointer (some ⟨N + 1, 0, none⟩)] w fun x w' => x = .returned (.tuple #[]) ∧ Filled s N K p a ev w w' := by
  obtain ⟨⟨prev, hS⟩, ⟨lb, ls, hB⟩, ⟨U, hU, hUs, hdat⟩, hle, hre, heK⟩ := h
  have c0 : w.cell? ⟨N + 1, 0, none⟩ = some (.slice (some ⟨N + 2, 0, none⟩) K K) := block_cell hB
  have c2 : w.cell? ⟨N + 1, 2, none⟩ = some (.int .i64 r) := block_cell hB
  have c3 : w.cell? ⟨N + 1, 3, none⟩ = some (.int .i64 e) := block_cell hB
  have f2 : w.frozen? ⟨N + 1, 2, none⟩ = false := block_free hB
  have f3 : w.frozen? ⟨N + 1, 3, none⟩ = false := block_free hB
  have HS := Lib.hid hS
  have HB := Lib.hid hB
  have HU := Lib.hid hU
  have HUs := Lib.hid hUs
  have HDat := Lib.hid hdat
  rw [← ha] at hle
  have HA := Lib.hid ha
  clear hS hB hU hUs hdat ha
  go_enter Tryd.func42, Tryd.ntmps42
  go_upto_if 9 with fail
  go_cut [5] from 5 (fun _ wx => (∃ V : Array Value, wx.heap[N + 2]? = some (.cells V 5 (0, 0)) ∧ V.size = K ∧ (V.toList.drop 0).take a = Lib.byteCells ((s.data.toList.drop p).take a)) ∧
    wx.heap[N]? = some (.cells #[.string s, .int .i64 (p + a : Nat), .int .i64 prev] 53 (0, 0)) ∧
    wx.heap[N + 1]? = some (.cells #[.slice (some ⟨N + 2, 0, none⟩) K K, .iface 42 (.pointer (some ⟨N, 0, none⟩)), .int .i64 0, .int .i64 a, .nilIface, .int .i64 lb, .int .i64 ls] 65 (0, 0)) ∧ Keep (fun k => k = N ∨ k = N + 1 ∨ k = N + 2) w wx)
  case first =>
    by_cases hr : 0 < r
    · have hcl : ((U.toList.drop r).take (e - r)).length = e - r := by
        rw [List.length_take, List.length_drop, Array.length_toList, HUs.out]
        omega
      obtain ⟨cs, hcs⟩ : ∃ cs, cs = (U.toList.drop r).take (e - r) := ⟨_, rfl⟩
      rw [← hcs] at hcl HDat
      have h1 : ∀ v ∈ cs, v.oneCell' = true := by rw [HDat.out]; exact Lib.byteCells_one _
      have hsrc : ∀ j v, cs[j]? = some v → w.cell? ((⟨N + 2, r, none⟩ : Addr).add j) = some v := fun j v hv => by
        rw [addr_add, block_cell HU.out]
        rw [hcs, List.getElem?_take] at hv
        split at hv
        · rw [List.getElem?_drop, Array.getElem?_toList] at hv
          exact hv
        · cases hv
      have HC := Lib.hid hcl
      have H1 := Lib.hid h1
      have HSrc := Lib.hid hsrc
      clear hcl h1 hsrc hcs
      go_upto_region 1 with fail
      go_cut [27] from 5 (fun _ wx => wx.heap[N]? = w.heap[N]? ∧ wx.heap[N + 1]? = w.heap[N + 1]? ∧ wx.heap[N + 2]? = some (.cells (cs ++ U.toList.drop cs.length).toArray 5 (0, 0)) ∧ Keep (fun k => k = N ∨ k = N + 1 ∨ k = N + 2) w wx)
      case first =>
        by_cases hrK : r = K
        · have he : e = r := by omega
          have HK' := Lib.hid hrK
          have HE' := Lib.hid he
          have hcs0 : cs = [] := List.eq_nil_of_length_eq_zero (by rw [HC.out, he]; omega)
          subst hcs0
          subst hrK
          subst he
          go_region_law (refine step_copy_row rfl (.tmp 13) (.tmp 26) 25 25 rfl 5 Tryd.underlying25 sizeByte (N + 2) 0 e e rfl ⟨N + 2, 0, none⟩ 0 0 rfl U 5 [] (by simp) HU.out (fun j v hv => (by simp at hv)) (by simp) (fun v hv => (by cases hv)) ?_)
          all_goals
            go_wp2
            go_meet
            exact ⟨setRow_other _ _ _ _ (by omega), setRow_other _ _ _ _ (by omega), setRow_heap w.drew _ U _ 5 (0, 0) HU.out, ((Keep.refl _ w).drew).setRow (Or.inr (Or.inr rfl)) _⟩
        · have hrK' : ¬ K = r := fun e => hrK e.symm
          go_region_law (refine step_copy_row rfl (.tmp 13) (.tmp 26) 25 25 rfl 5 Tryd.underlying25 sizeByte (N + 2) 0 K K rfl ⟨N + 2, r, none⟩ (e - r) (K - r) rfl U 5 cs (by rw [HC.out]; exact (Nat.min_eq_left (by omega)).symm) HU.out HSrc.out (by rw [HC.out, HUs.out]; omega) H1.out ?_)
          all_goals
            go_wp2
            go_meet
            exact ⟨setRow_other _ _ _ _ (by omega), setRow_other _ _ _ _ (by omega), setRow_heap w.drew _ U _ 5 (0, 0) HU.out, ((Keep.refl _ w).drew).setRow (Or.inr (Or.inr rfl)) _⟩
      case rest =>
      obtain ⟨hS', hB', hU', hk'⟩ := hcut
      rw [HS.out] at hS'
      rw [HB.out] at hB'
      have c2 : wc.cell? ⟨N + 1, 2, none⟩ = some (.int .i64 r) := block_cell hB'
      have c3 : wc.cell? ⟨N + 1, 3, none⟩ = some (.int .i64 e) := block_cell hB'
      have f2 : wc.frozen? ⟨N + 1, 2, none⟩ = false := block_free hB'
      have f3 : wc.frozen? ⟨N + 1, 3, none⟩ = false := block_free hB'
      have HS2 := Lib.hid hS'
      have HB2 := Lib.hid hB'
      have HU2 := Lib.hid hU'
      have HK2 := Lib.hid hk'
      clear hS' hB' hU' hk'
      go_upto_region 2 with fail
      go_cut [28] from 5 (fun _ wx => wx.heap[N]? = wc.heap[N]? ∧ wx.heap[N + 2]? = wc.heap[N + 2]? ∧ wx.heap[N + 1]? = some (.cells #[.slice (some ⟨N + 2, 0, none⟩) K K, .iface 42 (.pointer (some ⟨N, 0, none⟩)), .int .i64 r, .int .i64 ((e : Int) - r), .nilIface, .int .i64 lb, .int .i64 ls] 65 (0, 0)) ∧ Keep (fun k => k = N ∨ k = N + 1 ∨ k = N + 2) w wx)
      case first =>
        go_region
        all_goals
          go_wp2
          go_meet
          exact ⟨block_setCell_other (by omega) _, block_setCell_other (by omega) _, block_setCell HB2.out _, (HK2.out.drew).setCell (Or.inr (Or.inl rfl)) _⟩
      case rest =>
      obtain ⟨hS3, hU3, hB3, hk3⟩ := hcut
      rw [HS2.out] at hS3
      rw [HU2.out] at hU3
      have g2 : wc.frozen? ⟨N + 1, 2, none⟩ = false := block_free hB3
      have k2 : wc.cell? ⟨N + 1, 2, none⟩ = some (.int .i64 r) := block_cell hB3
      have HS3 := Lib.hid hS3
      have HB3 := Lib.hid hB3
      have HU3 := Lib.hid hU3
      have HK3 := Lib.hid hk3
      clear hS3 hB3 hU3 hk3
      go_wp2
      go_meet
      rw [HA.out]
      refine ⟨⟨_, (block_setCell_other (by omega) _).trans HU3.out, ?_, ?_⟩, (block_setCell_other (by omega) _).trans HS3.out, ?_, HK3.out.setCell (Or.inr (Or.inl rfl)) _⟩
      · rw [List.size_toArray, List.length_append, List.length_drop, HC.out, Array.length_toList, HUs.out]
        omega
      · rw [← HDat.out, List.drop_zero, List.take_append, List.take_of_length_le (by rw [HC.out]; omega), HC.out, Nat.sub_self, List.take_zero, List.append_nil]
      · rw [block_setCell HB3.out]
        simp
        omega
    · have hr0 : r = 0 := by omega
      have HR := Lib.hid hr0
      have hr' : ¬ (0 : Int) < (r : Int) := by omega
      clear hr0
      go_wp2
      go_meet
      rw [HA.out]
      rw [HR.out] at HDat HB HS ⊢
      exact ⟨⟨U, HU.out, HUs.out, HDat.out⟩, HS.out, HB.out, Keep.refl _ _⟩
  case rest =>
  obtain ⟨⟨V, hV, hVs, hVd⟩, hS1, hB1, hk1⟩ := hcut
  clear c0 c2 c3 f2 f3 HS HB HU HUs HDat HA
  have hE1 : wc.cell? ⟨1, 0, none⟩ = some ev := by
    rw [← hE]
    exact hk1.cell (by omega) hE
  have c0 : wc.cell? ⟨N + 1, 0, none⟩ = some (.slice (some ⟨N + 2, 0, none⟩) K K) := block_cell hB1
  have c1 : wc.cell? ⟨N + 1, 1, none⟩ = some (.iface 42 (.pointer (some ⟨N, 0, none⟩))) := block_cell hB1
  have c3 : wc.cell? ⟨N + 1, 3, none⟩ = some (.int .i64 a) := block_cell hB1
  have f3 : wc.frozen? ⟨N + 1, 3, none⟩ = false := block_free hB1
  have f4 : wc.frozen? ⟨N + 1, 4, none⟩ = false := block_free hB1
  have c4 : wc.cell? ⟨N + 1, 4, none⟩ = some .nilIface := block_cell hB1
  have HV := Lib.hid hV
  have HVs := Lib.hid hVs
  have HVd := Lib.hid hVd
  have HS1 := Lib.hid hS1
  have HB1 := Lib.hid hB1
  have HK1 := Lib.hid hk1
  clear hV hVs hVd hS1 hB1 hk1
  have haK : (a : Int) < (K : Int) := by omega
  have haK' : ¬ (K : Int) ≤ (a : Int) := by omega
  go_upto_region 4 with fail
  go_quiet (fail)
  go_wp2
  refine wp_loop_rounds 1 ?_
  rw [rounds_succ]
  go_upto_region 9 with fail
  obtain ⟨c, hc⟩ : ∃ c, c = Nat.min (s.size - (p + a)) (K - a) := ⟨_, rfl⟩
  obtain ⟨er, her1, her2⟩ : ∃ er : Value, (p + a < s.size → er = .nilIface) ∧ (¬ p + a < s.size → er = ev) := by
    by_cases h : p + a < s.size
    · exact ⟨.nilIface, fun _ => rfl, fun h' => absurd h h'⟩
    · exact ⟨ev, fun h' => absurd h' h, fun _ => rfl⟩
  have CR : ∀ W : World, W.heap = wc.heap → W.os = wc.os → W.tape = wc.tape → W.output = wc.output → Calls Tryd.prog 68 #[.pointer (some ⟨N, 0, none⟩), .slice (some ⟨N + 2, a, none⟩) (K - a) (K - a)] W fun x w' => x = .returned (.tuple #[.int .i64 c, er]) ∧
    (∃ pv : Int, w'.heap[N]? = some (.cells #[.string s, .int .i64 (p + a + c : Nat), .int .i64 pv] 53 (0, 0))) ∧
    w'.heap[N + 2]? = some (.cells (V.toList.take a ++ (Lib.byteCells ((s.data.toList.drop (p + a)).take c) ++ V.toList.drop (a + c))).toArray 5 (0, 0)) ∧ Keep (fun k => k = N ∨ k = N + 2) wc w' := fun W h1 h2 h3 h4 =>
    (read_any s N (p + a) a K c prev V W ev er hs hle (by omega) hc (by rw [h1]; exact HS1.out) (by rw [h1]; exact HV.out) HVs.out (by rw [← hE1]; unfold World.cell?; rw [h1]) hev her1 her2).mono fun x w' ⟨e1, e2, e3, e4⟩ =>
      ⟨e1, e2, e3, ⟨e4.os.trans h2, e4.tape.trans h3, e4.output.trans h4, by rw [← h1]; exact e4.size, fun k hk hm => by rw [← h1]; exact e4.block k (by rw [h1]; exact hk) hm⟩⟩
  have HCR := Lib.hid CR
  have HC := Lib.hid hc
  have HE1 := Lib.hid her1
  have HE2 := Lib.hid her2
  clear CR hc her1 her2
  go_cut [3, 4] from 58 to 94 (fun n er' wx => n = .int .i64 c ∧ er' = er ∧ (∃ pv : Int, wx.heap[N]? = some (.cells #[.string s, .int .i64 (p + a + c : Nat), .int .i64 pv] 53 (0, 0))) ∧
    wx.heap[N + 2]? = some (.cells (V.toList.take a ++ (Lib.byteCells ((s.data.toList.drop (p + a)).take c) ++ V.toList.drop (a + c))).toArray 5 (0, 0)) ∧ Keep (fun k => k = N ∨ k = N + 2) wc wx)
  case first =>
    go_region_with (go_at_call 68; refine (HCR.out _ ?_ ?_ ?_ ?_).mono ?_; rfl; rfl; rfl; rfl; rintro e1 w1 ⟨rfl, r1, r2, r3⟩)
    all_goals
      go_wp2
      go_meet
      exact ⟨rfl, rfl, r1, r2, r3⟩
  case rest =>
  obtain ⟨rfl, he, ⟨pv, hS2⟩, hU2, hk2⟩ := hcut
  have he := he.symm
  subst he
  have hB2 := hk2.block (N + 1) (block_lt HB1.out) (by omega)
  rw [HB1.out] at hB2
  clear c0 c1 c3 f3 f4 c4 HCR
  have hcs : c ≤ s.size - (p + a) := by rw [HC.out]; exact Nat.min_le_left _ _
  have hcK : c ≤ K - a := by rw [HC.out]; exact Nat.min_le_right _ _
  have c3 : wc.cell? ⟨N + 1, 3, none⟩ = some (.int .i64 a) := block_cell hB2
  have f3 : wc.frozen? ⟨N + 1, 3, none⟩ = false := block_free hB2
  have f4 : ∀ v, (wc.setCell ⟨N + 1, 3, none⟩ v).frozen? ⟨N + 1, 4, none⟩ = false := fun v => block_free (block_setCell hB2 v)
  have c4 : wc.cell? ⟨N + 1, 4, none⟩ = some .nilIface := block_cell hB2
  have f4' : wc.frozen? ⟨N + 1, 4, none⟩ = false := block_free hB2
  have hc0 : ¬ (c : Int) < 0 := by omega
  have HS2 := Lib.hid hS2
  have HU2 := Lib.hid hU2
  have HB2 := Lib.hid hB2
  have HK2 := Lib.hid hk2
  clear hS2 hU2 hB2 hk2
  have hrow : ((V.toList.take a ++ (Lib.byteCells ((s.data.toList.drop (p + a)).take c) ++ V.toList.drop (a + c))).drop 0).take (a + c) = Lib.byteCells ((s.data.toList.drop p).take (a + c)) := by
    rw [row_on HVd.out (by rw [Array.length_toList, HVs.out]; omega) (by rw [Lib.byteCells_length, List.length_take, List.length_drop, ← Lib.size_eq]; omega), take_two]
  have hsz : (V.toList.take a ++ (Lib.byteCells ((s.data.toList.drop (p + a)).take c) ++ V.toList.drop (a + c))).length = K := by
    rw [List.length_append, List.length_append, List.length_take, List.length_drop, Lib.byteCells_length, List.length_take, List.length_drop, ← Lib.size_eq, Array.length_toList, HVs.out]
    omega
  have HRow := Lib.hid hrow
  have HSz := Lib.hid hsz
  clear hrow hsz
  have hk : Keep (fun k => k = N ∨ k = N + 1 ∨ k = N + 2) w wc := HK1.out.trans (HK2.out.mono (fun k h => by omega))
  have HK := Lib.hid hk
  clear hk
  have HEnd : Hid (∀ W : World, W.heap[N]? = wc.heap[N]? → W.heap[N + 2]? = wc.heap[N + 2]? → W.heap[N + 1]? = some (.cells #[.slice (some ⟨N + 2, 0, none⟩) K K, .iface 42 (.pointer (some ⟨N, 0, none⟩)), .int .i64 0, .int .i64 (a + c : Nat), er, .int .i64 lb, .int .i64 ls] 65 (0, 0)) →
      Bs s N K p 0 (a + c) er W) := Lib.hid fun W h1 h2 h3 =>
    ⟨⟨pv, by rw [h1, HS2.out, Nat.add_assoc]; rfl⟩, ⟨lb, ls, h3⟩, ⟨_, by rw [h2, HU2.out], by rw [List.size_toArray]; exact HSz.out, HRow.out⟩, by omega, by omega, by omega⟩
  by_cases hend : p + a < s.size
  · have hcp : (0 : Int) < (c : Int) := by
      have : 0 < c := by rw [HC.out]; exact Nat.lt_min.2 ⟨by omega, by omega⟩
      omega
    rw [HE1.out hend] at HEnd ⊢
    go_wp2
    refine bodyPost_ret (results_none rfl _ _ _) rfl ?_
    refine ⟨rfl, ⟨c, _, HC.out, fun _ => rfl, fun h => absurd hend h, HEnd.out _ (block_setCell_other (by omega) _) (block_setCell_other (by omega) _) ?_⟩, HK.out.setCell (Or.inr (Or.inl rfl)) _⟩
    rw [block_setCell HB2.out]
    simp
  · obtain ⟨et, ep, rfl⟩ := hev
    have hcz : c = 0 := by omega
    rw [HE2.out hend] at HEnd ⊢
    go_wp2
    refine bodyPost_ret (results_none rfl _ _ _) rfl ?_
    refine ⟨rfl, ⟨_, _, HC.out, fun h => absurd h hend, fun _ => rfl, HEnd.out _ ((block_setCell_other (by omega) _).trans (block_setCell_other (by omega) _)) ((block_setCell_other (by omega) _).trans (block_setCell_other (by omega) _)) ?_⟩, (HK.out.setCell (Or.inr (Or.inl rfl)) _).setCell (Or.inr (Or.inl rfl)) _⟩
    rw [block_setCell (block_setCell HB2.out _)]
    simp
    omega
end Go.Proofs.Qxb6604708aDoor
