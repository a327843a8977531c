/-
  seat b6604708aD: (*bufio.Reader).ReadSlice('\n') over a strings.Reader, walked.
-/
import Derived.Test.Qxb6604708aDoorFill
import Derived.Test.Qxb6604708aDoorSmall
import Derived.Deep.CutBlock
namespace Go.Proofs.Qxb6604708aDoor
open Go Go.RowKit

theorem row_cell {U : Array Value} {r a : Nat} {bs : List UInt8} (h : (U.toList.drop r).take a = Lib.byteCells (bs.take a)) (hl : a ≤ bs.length) (j : Nat) (hj : j < a) : U[r + j]? = some (.int .u8 (bs.getD j 0).toNat) := by
  have h1 : ((U.toList.drop r).take a)[j]? = U[r + j]? := by
    rw [List.getElem?_take_of_lt hj, List.getElem?_drop, Array.getElem?_toList]
  rw [← h1, h]
  unfold Lib.byteCells
  rw [List.getElem?_map, List.getElem?_take_of_lt hj, List.getElem?_eq_getElem (by omega), List.getD_eq_getElem?_getD, List.getElem?_eq_getElem (by omega)]
  rfl

/-- What ReadSlice hands over: m bytes of s from place p on, lying in the buffer from o on; how it ended. -/
structure Got (s : ByteArray) (N K p o m r e : Nat) (err ev fv : Value) (w : World) : Prop where
  bs : Bs s N K (p + m) r e .nilIface w
  row : ∃ U : Array Value, w.heap[N + 2]? = some (.cells U 5 (0, 0)) ∧ U.size = K ∧ (U.toList.drop o).take m = Lib.byteCells ((s.data.toList.drop p).take m)
  le : p + m ≤ s.size
  fit : o + m ≤ K
  how : (err = .nilIface ∧ ∃ i, m = i + 1 ∧ (s.data.toList.drop p)[i]? = some 10 ∧ (10 : UInt8) ∉ (s.data.toList.drop p).take i) ∨
    (err = fv ∧ m = K ∧ (10 : UInt8) ∉ (s.data.toList.drop p).take m) ∨ (err = ev ∧ p + m = s.size ∧ (10 : UInt8) ∉ s.data.toList.drop p)

theorem Got.turn {s : ByteArray} {N K p o m r e : Nat} {err ev fv : Value} {w w' : World} (h : Got s N K p o m r e err ev fv w) (hS : w'.heap[N]? = w.heap[N]?) (hU : w'.heap[N + 2]? = w.heap[N + 2]?)
    (hB : ∃ lb ls : Int, w'.heap[N + 1]? = some (.cells #[.slice (some ⟨N + 2, 0, none⟩) K K, .iface 42 (.pointer (some ⟨N, 0, none⟩)), .int .i64 r, .int .i64 e, .nilIface, .int .i64 lb, .int .i64 ls] 65 (0, 0))) :
    Got s N K p o m r e err ev fv w' :=
  ⟨⟨by rw [hS]; exact h.bs.S, hB, by rw [hU]; exact h.bs.U, h.bs.le, h.bs.re, h.bs.eK⟩, by rw [hU]; exact h.row, h.le, h.fit, h.how⟩

/-- The loop's state: the first k of what is read ahead hold no line feed. -/
def Seek (s : ByteArray) (N K p : Nat) (ev : Value) (g k r e : Nat) (er : Value) (w : World) : Prop :=
  Bs s N K p r e er w ∧ k ≤ e - r ∧ (10 : UInt8) ∉ (s.data.toList.drop p).take k ∧ ((er = .nilIface ∧ g = s.size - (p + (e - r)) + 1) ∨ (er = ev ∧ g = 0 ∧ r = 0 ∧ k = e ∧ p + e = s.size))

theorem Bs.of_heap {s : ByteArray} {N K p r e : Nat} {er : Value} {w W : World} (h : Bs s N K p r e er w) (hW : W.heap = w.heap) : Bs s N K p r e er W :=
  ⟨by rw [hW]; exact h.S, by rw [hW]; exact h.B, by rw [hW]; exact h.U, h.le, h.re, h.eK⟩

/-- m bytes of what is read ahead are taken. -/
theorem Bs.skip {s : ByteArray} {N K p r e m : Nat} {er er' : Value} {w w' : World} (h : Bs s N K p r e er w) (hm : m ≤ e - r) (hS : w'.heap[N]? = w.heap[N]?) (hU : w'.heap[N + 2]? = w.heap[N + 2]?)
    (hB : ∃ lb ls : Int, w'.heap[N + 1]? = some (.cells #[.slice (some ⟨N + 2, 0, none⟩) K K, .iface 42 (.pointer (some ⟨N, 0, none⟩)), .int .i64 (r + m : Nat), .int .i64 e, er', .int .i64 lb, .int .i64 ls] 65 (0, 0))) :
    Bs s N K (p + m) (r + m) e er' w' := by
  obtain ⟨⟨pv, h1⟩, _, ⟨U, h3, h4, h5⟩, hle, hre, heK⟩ := h
  refine ⟨⟨pv, ?_⟩, hB, ⟨U, hU.trans h3, h4, ?_⟩, by omega, by omega, heK⟩
  · rw [hS, h1, show p + m + (e - (r + m)) = p + (e - r) by omega]
  · have e1 := congrArg (List.drop m) h5
    unfold Lib.byteCells at e1 ⊢
    rw [List.drop_take, List.drop_drop, ← List.map_drop, List.drop_take, List.drop_drop] at e1
    rw [show e - (r + m) = e - r - m by omega]
    exact e1

theorem find_shift {L : List UInt8} {a k o : Nat} (h1 : ((L.take a).drop k)[o]? = some 10) (h2 : (10 : UInt8) ∉ ((L.take a).drop k).take o) (h3 : (10 : UInt8) ∉ L.take k) (ho : o + k < a) : L[o + k]? = some 10 ∧ (10 : UInt8) ∉ L.take (o + k) := by
  rw [List.getElem?_drop, List.getElem?_take_of_lt (by omega)] at h1
  rw [List.drop_take, List.take_take, Nat.min_eq_left (by omega)] at h2
  refine ⟨by rw [Nat.add_comm]; exact h1, fun h => ?_⟩
  rw [Nat.add_comm, List.take_add, List.mem_append] at h
  exact h.elim h3 h2

theorem none_shift {L : List UInt8} {a k : Nat} (h2 : (10 : UInt8) ∉ (L.take a).drop k) (h3 : (10 : UInt8) ∉ L.take k) (hk : k ≤ a) : (10 : UInt8) ∉ L.take a := by
  intro h
  rw [← List.take_append_drop k (L.take a), List.mem_append, List.take_take, Nat.min_eq_left hk] at h
  exact h.elim h3 h2

theorem row_part {U : List Value} {L : List UInt8} {r a m : Nat} (h : (U.drop r).take a = Lib.byteCells (L.take a)) (hm : m ≤ a) : (U.drop r).take m = Lib.byteCells (L.take m) := by
  have e1 := congrArg (List.take m) h
  unfold Lib.byteCells at e1 ⊢
  rw [List.take_take, Nat.min_eq_left hm, ← List.map_take, List.take_take, Nat.min_eq_left hm] at e1
  exact e1

abbrev own3 (N : Nat) : Nat → Prop := fun k => k = N ∨ k = N + 1 ∨ k = N + 2

set_option maxRecDepth 100000 in
set_option maxHeartbeats 4000000 in
theorem readSlice (s : ByteArray) (N K p r e : Nat) (w : World) (ev fv : Value) (hs : s.size ≤ 2000000) (hK0 : 0 < K) (hK : K ≤ 2000000) (h : Bs s N K p r e .nilIface w)
    (hE : w.cell? ⟨1, 0, none⟩ = some ev) (hF : w.cell? ⟨0, 0, none⟩ = some fv) (hev : ∃ t p, ev = .iface t p) (hN : 1 < N) :
    Calls Tryd.prog 29 #[.pointer (some ⟨N + 1, 0, none⟩), .int .u8 10] w fun x w' => (∃ o m r' e' err, x = .returned (.tuple #[.slice (some ⟨N + 2, o, none⟩) m (K - o), err]) ∧ Got s N K p o m r' e' err ev fv w') ∧ Keep (own3 N) w w' := by
  have HBs := Lib.hid h
  have HE := Lib.hid hE
  have HF := Lib.hid hF
  have Hev := Lib.hid hev
  clear h hE hF hev
  go_enter Tryd.func29, Tryd.ntmps29
  go_upto_block 0 with fail
  go_cut [4, 5] from 6 (fun ln er wx => (∃ o m r' e', ln = .slice (some ⟨N + 2, o, none⟩) m (K - o) ∧ Got s N K p o m r' e' er ev fv wx) ∧ Keep (own3 N) w wx)
  case first =>
    go_wp2_with fail
    go_loopg [5, 6] (s.size - (p + (e - r)) + 1) (fun g x5 sc wx => x5 = .nilIface ∧ (∃ k r e er, sc = .int .i64 (k : Nat) ∧ Seek s N K p ev g k r e er wx) ∧ Keep (own3 N) w wx)
    case atStart => exact ⟨rfl, ⟨0, r, e, .nilIface, rfl, HBs.out, Nat.zero_le _, by simp, Or.inl ⟨rfl, rfl⟩⟩, Keep.refl _ _⟩
    case round =>
      obtain ⟨rfl, ⟨k, r1, e1, er, rfl, hsk⟩, hkp⟩ := hrel
      obtain ⟨hbs, hke, hnl, hst⟩ := hsk
      have hE : wr.cell? ⟨1, 0, none⟩ = some ev := by rw [← HE.out]; exact hkp.cell (by omega) HE.out
      have hF : wr.cell? ⟨0, 0, none⟩ = some fv := by rw [← HF.out]; exact hkp.cell (by omega) HF.out
      have hbs' := hbs
      obtain ⟨⟨prev, hS⟩, ⟨lb, ls, hB⟩, ⟨U, hU, hUs, hdat⟩, hle, hre, heK⟩ := hbs'
      have c0 : wr.cell? ⟨N + 1, 0, none⟩ = some (.slice (some ⟨N + 2, 0, none⟩) K K) := block_cell hB
      have c2 : wr.cell? ⟨N + 1, 2, none⟩ = some (.int .i64 r1) := block_cell hB
      have c3 : wr.cell? ⟨N + 1, 3, none⟩ = some (.int .i64 e1) := block_cell hB
      have c4 : wr.cell? ⟨N + 1, 4, none⟩ = some er := block_cell hB
      have f2 : wr.frozen? ⟨N + 1, 2, none⟩ = false := block_free hB
      have f4 : wr.frozen? ⟨N + 1, 4, none⟩ = false := block_free hB
      have hdl : e1 - r1 ≤ (s.data.toList.drop p).length := by rw [List.length_drop, ← Lib.size_eq]; omega
      have hcell : ∀ j, j < e1 - r1 → wr.cell? ⟨N + 2, r1 + j, none⟩ = some (.int .u8 ((s.data.toList.drop p).getD j 0).toNat) := fun j hj => by
        rw [block_cell hU]; exact row_cell hdat hdl j hj
      obtain ⟨d, hd⟩ : ∃ d, d = ((s.data.toList.drop p).take (e1 - r1)).drop k := ⟨_, rfl⟩
      have hdlen : d.length = e1 - r1 - k := by rw [hd, List.length_drop, List.length_take]; omega
      have hdget : ∀ i, i < d.length → d.getD i 0 = (s.data.toList.drop p).getD (k + i) 0 := fun i hi => by
        rw [hd, List.getD_eq_getElem?_getD, List.getD_eq_getElem?_getD, List.getElem?_drop, List.getElem?_take_of_lt (by omega)]
      have CI : ∀ (W : World) (ad : Addr) (cp : Nat), W.heap = wr.heap → (d.length = 0 ∨ ad = ⟨N + 2, r1 + k, none⟩) → Calls Tryd.prog 39 #[.slice (some ad) (e1 - (r1 + k)) cp, .int .u8 10] W fun x w' => x = .returned (.int .i64 (Lib.indexByte d 10)) ∧ ∃ n, w' = W.drewN n := fun W ad cp hW had =>
        (index_row ad (e1 - (r1 + k)) _ d W (by omega) (fun i hi => by
          rcases had with h | rfl
          · omega
          · rw [addr_add, show W.cell? _ = wr.cell? _ from by unfold World.cell?; rw [hW], Nat.add_assoc, hcell _ (by omega), hdget i (by omega)])).mono fun _ _ ⟨h1, h2⟩ => ⟨h1, 0, h2⟩
      have HCI := Lib.hid CI
      have HBs1 := Lib.hid hbs
      have HB := Lib.hid hB
      have HU := Lib.hid hU
      have HUs := Lib.hid hUs
      have HDat := Lib.hid hdat
      have HCell := Lib.hid hcell
      have HD := Lib.hid hd
      have HDlen := Lib.hid hdlen
      have HDget := Lib.hid hdget
      have HNl := Lib.hid hnl
      have HSt := Lib.hid hst
      have HKp := Lib.hid hkp
      clear CI hbs hS hB hU hUs hdat hcell hd hdlen hdget hnl hst hkp
      go_upto_region 2 with fail
      go_cut [7] from 9 to 113 (fun x wx => x = .int .i64 (Lib.indexByte d 10) ∧ ∃ q, wx = wr.drewN q)
      case first =>
        by_cases hrk : K = r1 + k
        · have h0 : d.length = 0 := by rw [HDlen.out]; omega
          go_quiet (first | (go_at_call 39; refine Calls.quiet_of (HCI.out _ _ _ ?_ (Or.inl h0)); rfl))
          go_wp2
          go_meet
          exact ⟨rfl, _, rfl⟩
        · go_quiet (first | (go_at_call 39; refine Calls.quiet_of (HCI.out _ _ _ ?_ ?_); rfl; exact Or.inr rfl))
          go_wp2
          go_meet
          exact ⟨rfl, _, rfl⟩
      case rest =>
      obtain ⟨rfl, q, rfl⟩ := hcut
      clear HCI
      rcases indexByte_cases d with ⟨o, ho, hod, hoc, hon⟩ | ⟨hm, hnd⟩
      · rw [ho]
        have hn : er = .nilIface := by
          rcases HSt.out with ⟨h, _⟩ | ⟨_, _, h1, h2, _⟩
          · exact h
          · rw [HDlen.out] at hod; omega
        subst hn
        have hol : o + k + 1 ≤ e1 - r1 := by rw [HDlen.out] at hod; omega
        have hfind : (s.data.toList.drop p)[o + k]? = some 10 ∧ (10 : UInt8) ∉ (s.data.toList.drop p).take (o + k) := by
          rw [HD.out] at hoc hon
          exact find_shift hoc hon HNl.out (by omega)
        have HFind := Lib.hid hfind
        have h0 : (0 : Int) ≤ (o : Int) := by omega
        clear hoc hon hod ho hfind
        go_upto_region 5 with fail
        go_cut [4] from 9 to 113 (fun x wx => x = .slice (some ⟨N + 2, r1, none⟩) (o + k + 1) (K - r1) ∧ ∃ q, wx = wr.drewN q)
        case first =>
          have hrk : ¬ K = r1 := by omega
          have hb1 : r1 ≤ r1 + (o + k) + 1 := by omega
          have hb2 : r1 + (o + k) + 1 ≤ K := by omega
          go_quiet (fail)
          go_wp2
          go_meet
          exact ⟨by rw [show r1 + (o + k) + 1 - r1 = o + k + 1 by omega], _, rfl⟩
        case rest =>
        obtain ⟨rfl, q', rfl⟩ := hcut
        go_wp2
        go_meet
        refine ⟨⟨r1, o + k + 1, r1 + (o + k + 1), e1, rfl, ⟨HBs1.out.skip hol (block_setCell_other (by omega) _) (block_setCell_other (by omega) _) ⟨lb, ls, ?_⟩, ⟨U, (block_setCell_other (by omega) _).trans HU.out, HUs.out, ?_⟩, by omega, by omega, Or.inl ⟨rfl, _, rfl, HFind.out⟩⟩⟩, ?_⟩
        · rw [block_setCell (w := wr.drewN q') HB.out]
          simp
        · exact row_part HDat.out hol
        · exact (HKp.out.drewN _).setCell (Or.inr (Or.inl rfl)) _
      · rw [hm]
        have hno : (10 : UInt8) ∉ (s.data.toList.drop p).take (e1 - r1) := none_shift (by rw [← HD.out]; exact hnd) HNl.out hke
        have HNo := Lib.hid hno
        clear hno hnd hm
        by_cases hn : er = .nilIface
        · subst hn
          go_upto_region 11 with fail
          go_cut [90] from 9 to 113 (fun x wx => x = .bool (decide (K ≤ e1 - r1)) ∧ ∃ q, wx = wr.drewN q)
          case first =>
            have CB : ∀ x, Calls Tryd.prog 41 #[.pointer (some ⟨N + 1, 0, none⟩)] (wr.drewN (q + x)) fun e w' => e = .returned (.int .i64 (e1 - r1 : Nat)) ∧ ∃ n, w' = wr.drewN (q + n) := fun x =>
              (buffered (N + 1) r1 e1 (wr.drewN (q + x)) c2 c3 hre (by omega)).mono fun e w' ⟨h1, n, h2⟩ => ⟨h1, x + n, by rw [h2]; simp [World.drewN, Nat.add_assoc]⟩
            have HCB := Lib.hid CB
            clear CB
            go_quiet (first | (go_at_call 41; exact HCB.out _))
            go_wp2
            go_meet
            exact ⟨rfl, _, rfl⟩
          case rest =>
          obtain ⟨rfl, q', rfl⟩ := hcut
          by_cases hfull : K ≤ e1 - r1
          · have hz : r1 = 0 := by omega
            have hz' : e1 = K := by omega
            subst hz hz'
            rw [decide_eq_true hfull]
            have hf : (wr.drewN q').cell? ⟨0, 0, none⟩ = some fv := hF
            go_wp2
            go_meet
            refine ⟨⟨0, e1, 0 + e1, e1, rfl, ⟨HBs1.out.skip (Nat.le_refl _) (block_setCell_other (by omega) _) (block_setCell_other (by omega) _) ⟨lb, ls, ?_⟩, ⟨U, (block_setCell_other (by omega) _).trans HU.out, HUs.out, HDat.out⟩, by omega, by omega, Or.inr (Or.inl ⟨rfl, rfl, HNo.out⟩)⟩⟩, ?_⟩
            · rw [block_setCell (w := wr.drewN q') HB.out]
              simp
            · exact (HKp.out.drewN _).setCell (Or.inr (Or.inl rfl)) _
          · rw [decide_eq_false hfull]
            have CF : ∀ x, Calls Tryd.prog 42 #[.pointer (some ⟨N + 1, 0, none⟩)] (wr.drewN x) fun e w' => e = .returned (.tuple #[]) ∧ Filled s N K p (e1 - r1) ev (wr.drewN x) w' := fun x =>
              fill s N K p r1 e1 (e1 - r1) (wr.drewN x) ev rfl hs hK (HBs1.out.of_heap rfl) (by omega) hE Hev.out hN
            have HCF := Lib.hid CF
            clear CF
            go_upto_region 15 with fail
            go_quiet (fail)
            go_wp2_with (go_at_call 42; refine (HCF.out _).mono ?_; rintro x w1 ⟨rfl, hf⟩)
            obtain ⟨⟨c, er', hc, h1, h2, hb⟩, hk⟩ := hf
            have hkp2 : Keep (own3 N) w w1 := (HKp.out.drewN _).trans hk
            rcases HSt.out with ⟨_, hg⟩ | ⟨he, _⟩
            · by_cases hend : p + (e1 - r1) < s.size
              · have hcp : 0 < c := by rw [hc]; exact Nat.lt_min.2 ⟨by omega, by omega⟩
                have hcs : c ≤ s.size - (p + (e1 - r1)) := by rw [hc]; exact Nat.min_le_left _ _
                have he := h1 hend
                subst he
                go_roundg (s.size - (p + (e1 - r1 + c)) + 1)
                case measure => omega
                case rel => exact ⟨rfl, ⟨e1 - r1, 0, e1 - r1 + c, .nilIface, by go_num, hb, by omega, HNo.out, Or.inl ⟨rfl, by omega⟩⟩, hkp2⟩
              · have hc0 : c = 0 := by rw [hc, show s.size - (p + (e1 - r1)) = 0 by omega]; exact Nat.zero_min _
                have he := h2 hend
                subst he hc0
                go_roundg 0
                case measure => omega
                case rel => exact ⟨rfl, ⟨e1 - r1, 0, e1 - r1 + 0, _, by go_num, hb, by omega, HNo.out, Or.inr ⟨rfl, rfl, rfl, rfl, by omega⟩⟩, hkp2⟩
            · obtain ⟨t, pp, h⟩ := Hev.out
              rw [h] at he
              cases he
        · rcases HSt.out with ⟨h, _⟩ | ⟨he, _, hr0, hk0, hpe⟩
          · exact absurd h hn
          · subst hr0 hk0
            obtain ⟨et, ep, hev'⟩ := Hev.out
            rw [hev'] at he
            subst he
            have CR : ∀ x, Calls Tryd.prog 40 #[.pointer (some ⟨N + 1, 0, none⟩)] ((wr.drewN x).setCell ⟨N + 1, 2, none⟩ (.int .i64 k)) fun e w' => e = .returned (.iface et ep) ∧ w' = ((wr.drewN x).setCell ⟨N + 1, 2, none⟩ (.int .i64 k)).setCell ⟨N + 1, 4, none⟩ .nilIface := fun x =>
              readErr (N + 1) _ _ (by rw [block_cell (block_setCell (w := wr.drewN x) HB.out _)]; simp) (block_free (block_setCell (w := wr.drewN x) HB.out _))
            have HCR := Lib.hid CR
            clear CR
            go_upto_region 8 with fail
            go_cut [4] from 9 to 113 (fun x wx => x = .slice (some ⟨N + 2, 0, none⟩) k K ∧ ∃ q, wx = wr.drewN q)
            case first =>
              have hk0 : ¬ K = 0 := by omega
              go_quiet (fail)
              go_wp2
              go_meet
              exact ⟨rfl, _, rfl⟩
            case rest =>
            obtain ⟨rfl, q', rfl⟩ := hcut
            go_wp2_with (go_at_call 40; refine (HCR.out _).mono ?_; rintro x w1 ⟨rfl, rfl⟩)
            go_meet
            refine ⟨⟨0, k, 0 + k, k, rfl, ⟨HBs1.out.skip (Nat.le_refl _) ((block_setCell_other (by omega) _).trans (block_setCell_other (by omega) _)) ((block_setCell_other (by omega) _).trans (block_setCell_other (by omega) _)) ⟨lb, ls, ?_⟩, ⟨U, ((block_setCell_other (by omega) _).trans (block_setCell_other (by omega) _)).trans HU.out, HUs.out, HDat.out⟩, by omega, by omega, Or.inr (Or.inr ⟨hev'.symm, hpe, ?_⟩)⟩⟩, ?_⟩
            · rw [block_setCell (block_setCell (w := wr.drewN q') HB.out _)]
              simp
            · have h := HNo.out
              rw [List.take_of_length_le (by rw [List.length_drop, ← Lib.size_eq]; omega)] at h
              exact h
            · exact ((HKp.out.drewN _).setCell (Or.inr (Or.inl rfl)) _).setCell (Or.inr (Or.inl rfl)) _
  case rest =>
  obtain ⟨⟨o, m, r2, e2, rfl, hg⟩, hkp⟩ := hcut
  have hg' := hg
  obtain ⟨hb, ⟨U, hU, hUs, hrow⟩, hle, hfit, hhow⟩ := hg'
  obtain ⟨lb, ls, hB⟩ := hb.B
  have c5 : wc.cell? ⟨N + 1, 5, none⟩ = some (.int .i64 lb) := block_cell hB
  have c6 : wc.cell? ⟨N + 1, 6, none⟩ = some (.int .i64 ls) := block_cell hB
  have f5 : wc.frozen? ⟨N + 1, 5, none⟩ = false := block_free hB
  have f6 : wc.frozen? ⟨N + 1, 6, none⟩ = false := block_free hB
  have HG := Lib.hid hg
  have HB := Lib.hid hB
  have HKp := Lib.hid hkp
  have HW := Lib.hid hhow
  by_cases hm : 0 < m
  · obtain ⟨m', rfl⟩ : ∃ m', m = m' + 1 := ⟨m - 1, by omega⟩
    obtain ⟨bv, hbv⟩ : ∃ bv : UInt8, wc.cell? ⟨N + 2, o + m', none⟩ = some (.int .u8 bv.toNat) := ⟨_, by rw [block_cell hU]; exact row_cell hrow (by rw [List.length_drop, ← Lib.size_eq]; omega) m' (by omega)⟩
    have hbv' : (bv.toNat : Int) < 256 := by have := bv.toNat_lt; omega
    have hmK : m' + 1 ≤ 2000000 := by omega
    have h0 : (0 : Int) ≤ (m' : Int) := by omega
    clear hg hb hU hUs hrow hle hfit hhow hB hkp HBs
    go_wp2
    go_ret2
    refine ⟨⟨o, m' + 1, r2, e2, _, rfl, HG.out.turn ((block_setCell_other (by omega) _).trans (block_setCell_other (by omega) _)) ((block_setCell_other (by omega) _).trans (block_setCell_other (by omega) _)) ⟨bv.toNat, -1, ?_⟩⟩, (HKp.out.setCell (Or.inr (Or.inl rfl)) _).setCell (Or.inr (Or.inl rfl)) _⟩
    rw [block_setCell (block_setCell HB.out _)]
    simp
  · have hm0 : m = 0 := by omega
    subst hm0
    clear hg hb hU hUs hrow hle hfit hhow hB hkp HBs
    go_wp2
    go_ret2
    exact ⟨⟨o, 0, r2, e2, _, rfl, HG.out⟩, HKp.out⟩
end Go.Proofs.Qxb6604708aDoor
