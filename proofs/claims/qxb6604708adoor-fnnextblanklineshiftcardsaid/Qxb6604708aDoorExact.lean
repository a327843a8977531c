/-
  seat b6604708aD: FnNextExact, walked.
-/
import Derived.Test.Qxb6604708aDoorPhys
namespace Go.Proofs.Qxb6604708aDoor
open Go Go.RowKit

theorem Rr.keep {s : ByteArray} {N K L c : Nat} {limit : Int} {R : List (List UInt8)} {v : Value} {w w' : World} {m : Nat → Prop} (h : Rr s N K L limit c R v w) (hk : Keep m w w') (hm : ∀ k, m k → ¬ Own N v k) : Rr s N K L limit c R v w' := by
  obtain ⟨⟨p, hp, ⟨⟨r, e, hb⟩, hblk⟩, hkt⟩, n, xs, hrow⟩ := h
  have hb' := hb
  obtain ⟨⟨pv, a1⟩, ⟨lb, ls, a2⟩, ⟨U, a3, _⟩, _⟩ := hb'
  refine ⟨⟨p, hp, ⟨⟨r, e, hb.of_blocks (hk.block _ (block_lt a1) (fun h => hm _ h (Or.inl ⟨by omega, by omega⟩))) (hk.block _ (block_lt a2) (fun h => hm _ h (Or.inl ⟨by omega, by omega⟩))) (hk.block _ (block_lt a3) (fun h => hm _ h (Or.inl ⟨by omega, by omega⟩)))⟩, ?_⟩, hkt⟩, n, xs, row_keep hrow (fun k hk' => hk.block k (hrow.lt k hk').2 (fun h => hm _ h (Or.inr hk')))⟩
  rw [hk.block _ (block_lt hblk) (fun h => hm _ h (Or.inl ⟨by omega, by omega⟩))]
  exact hblk

theorem nextK_skip {M : List (List UInt8)} {k c : Nat} (hk : k < M.length) (hb : nonBlank M[k] ≠ true) : nextK (M.drop k) c = nextK (M.drop (k + 1)) (c + 1) := by
  rw [List.drop_eq_getElem_cons hk]
  conv => lhs; unfold nextK
  rw [if_neg hb]
theorem nextK_hit {M : List (List UInt8)} {k c : Nat} (hk : k < M.length) (hb : nonBlank M[k] = true) : nextK (M.drop k) c = (some M[k], c + 1, M.drop (k + 1)) := by
  rw [List.drop_eq_getElem_cons hk]
  conv => lhs; unfold nextK
  rw [if_pos hb]
theorem nextK_end (M : List (List UInt8)) (c : Nat) : nextK (M.drop M.length) c = (none, c, []) := by
  rw [List.drop_length]
  rfl

theorem str_row {w : World} {b : Nat} {v : Value} {ls : List ByteArray} (h : w.ownsRow b 9 1 v ls.length (strs ls)) : ∃ pp cp, v = .slice pp ls.length cp ∧ ∀ i (hi : i < ls.length), ∃ g, b ≤ g ∧ pp = some ⟨g, 0, none⟩ ∧ w.cell? ⟨g, i, none⟩ = some (.string ls[i]) := by
  rcases h.2 with ⟨rfl, h0⟩ | ⟨g, cap, cur, rfl, hb, hg, _, _, _, htake⟩
  · exact ⟨none, 0, by rw [h0], fun i hi => by omega⟩
  · refine ⟨some ⟨g, 0, none⟩, cap, rfl, fun i hi => ⟨g, hb, rfl, ?_⟩⟩
    rw [block_cell hg]
    have h1 : (cur.toList.take (ls.length * 1))[i]? = some (.string ls[i]) := by
      rw [htake]
      simp [strs, hi]
    rw [List.getElem?_take_of_lt (by omega), Array.getElem?_toList] at h1
    exact h1

theorem row_keep9 {w w' : World} {b n : Nat} {v : Value} {xs : List Value} (h : w.ownsRow b 9 1 v n xs) (hk : ∀ k, v.ownBlock = some k → w'.heap[k]? = w.heap[k]?) : w'.ownsRow b 9 1 v n xs := by
  refine ⟨h.1, ?_⟩
  rcases h.2 with h | ⟨g, cap, cur, rfl, h1, h2, h3⟩
  · exact Or.inl h
  · exact Or.inr ⟨g, cap, cur, rfl, h1, (hk g rfl).trans h2, h3⟩

theorem nexted_none {R : List (List UInt8)} {c k : Nat} {ev : Value} {x : Ending} {A : List UInt8 → Prop} (h : nextK R c = (none, k, [])) (hx : ((nextK R c).1 = none ∧ x = .returned (.tuple #[.slice none 0 0, .int .i64 (nextK R c).2.1, ev])) ∨ ∃ y, (nextK R c).1 = some y ∧ A y) : x = .returned (.tuple #[.slice none 0 0, .int .i64 k, ev]) := by
  rw [h] at hx
  rcases hx with ⟨_, hx⟩ | ⟨y, hy, _⟩
  · exact hx
  · cases hy

theorem nexted_some {R : List (List UInt8)} {c k : Nat} {y : List UInt8} {R2 : List (List UInt8)} {v ev : Value} {x : Ending} {w : World} {b : Nat} (h : nextK R c = (some y, k, R2)) (hx : ((nextK R c).1 = none ∧ x = .returned (.tuple #[.slice none 0 0, .int .i64 (nextK R c).2.1, ev])) ∨ ∃ y, (nextK R c).1 = some y ∧ x = .returned (.tuple #[v, .int .i64 (nextK R c).2.1, .nilIface]) ∧ w.ownsRow b 5 1 v y.length (Lib.byteCells y)) :
    x = .returned (.tuple #[v, .int .i64 k, .nilIface]) ∧ w.ownsRow b 5 1 v y.length (Lib.byteCells y) := by
  rw [h] at hx
  rcases hx with ⟨hx, _⟩ | ⟨y', hy, h1, h2⟩
  · cases hx
  · obtain rfl := Option.some.inj hy
    exact ⟨h1, h2⟩

theorem zzBytes18 (s : ByteArray) (limit : Int) (w : World) (hs : s.size ≤ 1048576) : Calls Tryd.prog 18 #[.string s, .int .i64 limit] w fun e w' => e = .returned (.bool true) ∧ w' = w := by
  have h1 : ¬ (1048576 : Int) < (s.size : Int) := by omega
  go_enter Tryd.func18, Tryd.ntmps18
  go_wp2
  go_ret
  exact ⟨rfl, rfl⟩

set_option maxRecDepth 100000 in
set_option maxHeartbeats 4000000 in
theorem nextExact (s : ByteArray) (limit : Int) (w : World) (ev fv : Value) (hl1 : -9223372036854775808 ≤ limit) (hl2 : limit ≤ 9223372036854775807) (hs0 : s.size ≤ 9223372036854775807) (hsent : Sent w.heap.size ev fv w) :
    Calls Tryd.prog 6 #[.string s, .int .i64 limit] w fun e w' => e = .returned (.bool true) ∧ Below w.heap.size w w' := by
  have HSe := Lib.hid hsent
  clear hsent
  by_cases hs : s.size ≤ 1048576
  · by_cases hmax : limit = 9223372036854775807
    · have hb := beq_yes hmax
      have h1 : ¬ (1048576 : Int) < (s.size : Int) := by omega
      go_enter Tryd.func6, Tryd.ntmps6
      go_wp2
      go_ret
      exact ⟨rfl, Below.refl _ _⟩
    · have hb := beq_no hmax
      have h1 : ¬ (1048576 : Int) < (s.size : Int) := by omega
      have hl3 : limit < 9223372036854775807 := by omega
      go_enter Tryd.func6, Tryd.ntmps6
      go_wp2_with (first | (go_at_call 18; refine (zzBytes18 s limit _ hs).mono ?_; rintro x w1 ⟨rfl, hw⟩; have hw := hw.symm; subst hw) | (go_at_call 9; refine (newReader s limit _).mono ?_; rintro x w1 ⟨rfl, U, hU, rfl⟩; refine Hid.out ?_))
      refine Lib.hid ?_
      obtain ⟨N, hN⟩ : ∃ N, N = w.heap.size := ⟨_, rfl⟩
      obtain ⟨L, hL⟩ : ∃ L, L = (limit + 1).toNat := ⟨_, rfl⟩
      have hrr := new_rr w s limit U L hU
      have hk1 := new_keep w s limit U
      have hsz1 := new_size w s limit U
      generalize newWorld w s limit U = w1 at hrr hk1 hsz1 ⊢
      rw [← hN] at hrr hsz1 ⊢
      have hse1 : Sent N ev fv w1 := by rw [hN]; exact HSe.out.keep hk1 (fun k h => h.elim)
      have HRr := Lib.hid hrr
      have HK1 := Lib.hid hk1
      have HSe1 := Lib.hid hse1
      have HN := Lib.hid hN
      have HL := Lib.hid hL
      clear hrr hk1 hse1 hU hN hL HSe
      have CP := zzPhys s w1 hs
      rw [hsz1] at CP
      have HCP := Lib.hid CP
      clear CP
      go_wp2_with (go_at_call 13; refine HCP.out.mono ?_; rintro x w2 ⟨⟨vp, ls, rfl, hph, hlsz, hrow⟩, hb2⟩; refine Hid.out ?_)
      refine Lib.hid ?_
      obtain ⟨M, hM⟩ : ∃ M, M = kept L s.data.toList := ⟨_, rfl⟩
      have hMl : M.length = ls.length := by rw [hM]; unfold kept; rw [hph, List.length_map, List.length_map]
      have hMi : ∀ i (h : i < ls.length), M[i]? = some (ls[i].data.toList.take L) := fun i h => by
        rw [hM]
        unfold kept
        rw [hph]
        simp [h]
      have hMs : M.length ≤ 1048576 := by
        have := kept_length L s.data.toList
        rw [← Lib.size_eq, ← hM] at this
        omega
      have hk2 : Keep (fun k => N ≤ k) w1 w2 := ⟨hb2.os, hb2.tape, hb2.output, hb2.size, fun k hk hn => hb2.block k (by omega)⟩
      have hrr2 : Rr s N 65536 L limit 0 M (.slice none 0 0) w2 := by
        rw [hM]
        have hk2' : Keep (fun k => N + 4 ≤ k) w1 w2 := ⟨hb2.os, hb2.tape, hb2.output, hb2.size, fun k hk hn => hb2.block k (by omega)⟩
        exact HRr.out.keep hk2' (fun k hk ho => by
          rcases ho with ho | ho
          · omega
          · cases ho)
      have HM := Lib.hid hM
      have HMi := Lib.hid hMi
      have HMl := Lib.hid hMl
      have HPh := Lib.hid hph
      have HLsz := Lib.hid hlsz
      have HRow := Lib.hid hrow
      have HK2 := Lib.hid hk2
      have HRr2 := Lib.hid hrr2
      have hln : ls.length ≤ 1048576 := by omega
      clear hM hMi hMl hph hlsz hrow hk2 hrr2 hb2 HCP HRr
      obtain ⟨pp, cp, rfl, hcells0⟩ := str_row HRow.out
      clear hcells0
      go_wp2_with fail
      go_loopg [7, 8] ls.length (fun g x7 x8 wx => ∃ (k c : Nat) (v1 : Value), x7 = .int .i64 k ∧ x8 = .int .i64 c ∧ c ≤ k ∧ k + g = ls.length ∧ Rr s N 65536 L limit k (M.drop k) v1 wx ∧ wx.ownsRow (N + 4) 9 1 (.slice pp ls.length cp) ls.length (strs ls) ∧ (∀ b, v1.ownBlock = some b → (Value.slice pp ls.length cp).ownBlock ≠ some b) ∧ Keep (fun k => N ≤ k) w1 wx)
      case atStart => exact ⟨0, 0, _, rfl, rfl, Nat.le_refl _, by omega, HRr2.out, HRow.out, (fun b hb => by cases hb), HK2.out⟩
      case round =>
        obtain ⟨k, c, v1, rfl, rfl, hck, hkg, hrr, hrow, hap, hkp⟩ := hrel
        have hkl : k ≤ ls.length := by omega
        have HKg := Lib.hid hkg
        have HRr3 := Lib.hid hrr
        have HRow3 := Lib.hid hrow
        have HAp := Lib.hid hap
        have HKp := Lib.hid hkp
        obtain ⟨pp', cp', hpp, hcells⟩ := str_row hrow
        injection hpp with e1 _ e3
        subst e1 e3
        have HCells := Lib.hid hcells
        have hci : (c : Int) ≤ (ls.length : Int) := by omega
        clear hkg hrr hrow hap hkp hcells
        go_upto_block 2 with fail
        go_cut [7] from 28 to 92 (fun x wx => wx = wr ∧ ∃ k1 : Nat, x = .int .i64 k1 ∧ k ≤ k1 ∧ k1 ≤ ls.length ∧ Hid (nextK (M.drop k1) k1 = nextK (M.drop k) k) ∧ Hid (k1 = ls.length ∨ ∃ h : k1 < M.length, nonBlank M[k1] = true))
        case first =>
          go_wp2_with fail
          go_loopg [7] (ls.length - k) (fun g x wx => wx = wr ∧ ∃ k1 : Nat, x = .int .i64 k1 ∧ k ≤ k1 ∧ k1 + g = ls.length ∧ Hid (nextK (M.drop k1) k1 = nextK (M.drop k) k))
          case atStart => exact ⟨rfl, k, rfl, Nat.le_refl _, by omega, Lib.hid rfl⟩
          case round =>
            obtain ⟨rfl, k1, rfl, hkk, hk1g, HNx⟩ := hrel
            have HK1g := Lib.hid hk1g
            clear hk1g
            by_cases hlt : k1 < ls.length
            · obtain ⟨g, hgb, rfl, hcell⟩ := HCells.out k1 hlt
              have hlti : (k1 : Int) < (ls.length : Int) := by omega
              have hml : k1 < M.length := by rw [HMl.out]; exact hlt
              have hmi : M[k1] = ls[k1].data.toList.take L := by
                have h := HMi.out k1 hlt
                rw [List.getElem?_eq_getElem hml] at h
                exact Option.some.inj h
              have hts : ls[k1].size ≤ 2000000 := by have := HLsz.out ls[k1] (List.getElem_mem hlt); omega
              have CK := zzKeep ls[k1] limit L wr hts HL.out hl1 hl3
              have HCK := Lib.hid CK
              have HMi1 := Lib.hid hmi
              clear CK hmi
              go_wp2_with (first | (go_at_call 15; refine HCK.out.mono ?_; rintro x w3 ⟨⟨u, rfl, hu, hus⟩, hw⟩; have hw := hw.symm; subst hw) | (go_at_call 19; refine (zzNonBlank _ _ (by assumption)).mono ?_; rintro x w3 ⟨rfl, hw⟩; have hw := hw.symm; subst hw; refine Hid.out ?_))
              refine Lib.hid ?_
              rw [← HMi1.out]
              by_cases hnb : nonBlank M[k1] = true
              · rw [hnb]
                have HHit : Hid (k1 = ls.length ∨ ∃ h : k1 < M.length, nonBlank M[k1] = true) := Lib.hid (Or.inr ⟨hml, hnb⟩)
                clear hnb hu
                go_wp2
                go_meet
                exact ⟨rfl, k1, rfl, hkk, by omega, HNx, HHit⟩
              · have hnb' : nonBlank M[k1] = false := by simpa using hnb
                have HNx2 : Hid (nextK (M.drop (k1 + 1)) (k1 + 1) = nextK (M.drop k) k) := Lib.hid (by rw [← nextK_skip hml hnb]; exact HNx.out)
                rw [hnb']
                clear hnb hnb' hu
                go_wp2
                go_roundg (gk - 1)
                case measure => have := HK1g.out; omega
                case rel => exact ⟨rfl, k1 + 1, by go_num, by omega, by have := HK1g.out; omega, HNx2⟩
            · have hlti : ¬ (k1 : Int) < (ls.length : Int) := by omega
              have hke : k1 = ls.length := by have := HK1g.out; omega
              have HHit : Hid (k1 = ls.length ∨ ∃ h : k1 < M.length, nonBlank M[k1] = true) := Lib.hid (Or.inl hke)
              have hkl1 : k1 ≤ ls.length := by omega
              have hdec : decide ((k1 : Int) < (ls.length : Int)) = false := decide_eq_false hlti
              clear hke
              go_wp2
              go_meet
              exact ⟨rfl, k1, rfl, hkk, hkl1, HNx, HHit⟩
        case rest =>
        obtain ⟨hwc, k1, rfl, hkk, hk1l, HNx, HHit⟩ := hcut
        have hwc := hwc.symm
        subst hwc
        have hse2 : Sent N ev fv wr := HSe1.out.keep HKp.out (fun k h => h)
        have CN := next s N 65536 L limit k (M.drop k) v1 ev fv wr HL.out hl1 hl3 (by rw [List.length_drop]; omega) (by omega) (by omega) (by omega) HRr3.out hse2
        obtain ⟨et, ep, rfl⟩ := hse2.ev_iface
        have HCN := Lib.hid CN
        clear CN hse2
        have HBel : Hid (∀ W, Keep (Own N v1) wr W → Below w.heap.size w W) := Lib.hid fun W hW => by
          have h1 : Keep (fun k => N ≤ k) w1 W := HKp.out.trans' hW (fun k hk => by
            rcases hk with hk | hk
            · exact Or.inl hk.1
            · obtain ⟨n, xs, hr⟩ := HRr3.out.row
              have := (hr.lt k hk).1
              exact Or.inl (by omega))
          have h2 : Keep (fun k => N ≤ k) w W := (HK1.out.mono (fun k h => h.elim)).trans h1
          exact h2.below (Nat.le_refl _) (fun k hk => by have := HN.out; omega)
        rcases HHit.out with hend | ⟨hml, hnb⟩
        · -- the end
          have hnx : nextK (M.drop k) k = (none, k1, []) := by
            rw [← HNx.out, hend, ← HMl.out]
            exact nextK_end M _
          have HNx1 := Lib.hid hnx
          have heq : ((k1 : Int) == (ls.length : Int)) = true := beq_yes (by omega)
          have hnil : ∀ W : World, (binOp .eql 25 (.slice none 0 0) (.slice none 0 0)).run Tryd.prog W = .ok (.bool true) W := fun W => by kernel_rfl
          clear hnx
          go_wp2_with (go_at_call 20; refine HCN.out.mono ?_; rintro x w3 ⟨v2, hf3, hk3, hrr3, hx⟩; obtain rfl := nexted_none HNx1.out hx; have HB3 := Lib.hid (HBel.out _ hk3); clear hf3 hk3 hrr3 hx)
          go_ret
          exact ⟨by simp, HB3.out⟩
        · have hlt : k1 < ls.length := by rw [← HMl.out]; exact hml
          have hnx : nextK (M.drop k) k = (some M[k1], k1 + 1, M.drop (k1 + 1)) := by rw [← HNx.out]; exact nextK_hit hml hnb
          have HNx1 := Lib.hid hnx
          have hne : ((k1 : Int) == (ls.length : Int)) = false := beq_no (by omega)
          have hlti : (k1 : Int) < (ls.length : Int) := by omega
          have hmi : M[k1] = ls[k1].data.toList.take L := by
            have h := HMi.out k1 hlt
            rw [List.getElem?_eq_getElem hml] at h
            exact Option.some.inj h
          have hts : ls[k1].size ≤ 2000000 := by have := HLsz.out ls[k1] (List.getElem_mem hlt); omega
          obtain ⟨y, hy⟩ : ∃ y, y = M[k1] := ⟨_, rfl⟩
          rw [← hy] at hmi HNx1
          have HMi1 := Lib.hid hmi
          have hyl : y.length ≤ 2000000 := by rw [hmi, List.length_take, ← Lib.size_eq]; omega
          clear hnx hnb HHit hy hmi
          go_wp2_with (go_at_call 20; refine HCN.out.mono ?_; rintro x w3 ⟨v2, hf3, hk3, hrr3, hx⟩; obtain ⟨rfl, hrow2⟩ := nexted_some HNx1.out hx; obtain ⟨p2, c2, rfl, hl2', _, _, hin⟩ := bytes_of_own hrow2; refine Hid.out ?_)
          refine Lib.hid ?_
          rw [HNx1.out] at hrr3
          have hrow9 : w3.ownsRow (N + 4) 9 1 (.slice pp ls.length cp) ls.length (strs ls) := row_keep9 HRow3.out (fun b hb => hk3.block b (HRow3.out.lt b hb).2 (fun ho => by
            rcases ho with ho | ho
            · have := (HRow3.out.lt b hb).1; omega
            · exact HAp.out b ho hb))
          have hap2 : ∀ b, (Value.slice p2 y.length c2).ownBlock = some b → (Value.slice pp ls.length cp).ownBlock ≠ some b := fun b hb hb2 => by
            rcases hf3 with hf | hf
            · exact HAp.out b (hf ▸ hb) hb2
            · have h1 := hf b hb
              have h2 := (HRow3.out.lt b hb2).2
              omega
          have hkp3 : Keep (fun k => N ≤ k) w1 w3 := HKp.out.trans' hk3 (fun k hk => by
            rcases hk with hk | hk
            · exact Or.inl hk.1
            · obtain ⟨n, xs, hr⟩ := HRr3.out.row
              have := (hr.lt k hk).1
              exact Or.inl (by omega))
          obtain ⟨pp', cp', hpp, hcells3⟩ := str_row hrow9
          injection hpp with e1 _ e3
          subst e1 e3
          obtain ⟨g, hgb, hpg, hcell⟩ := hcells3 k1 hlt
          subst hpg
          have CK := zzKeep ls[k1] limit L w3 hts HL.out hl1 hl3
          have CE : ∀ u : ByteArray, u.data.toList = ls[k1].data.toList.take L → Calls Tryd.prog 11 #[.slice p2 y.length c2, .string u] w3 fun e w' => e = .returned (.bool true) ∧ ∃ q, w' = w3.drewN q := fun u hu => by
            rw [← HMi1.out] at hu
            exact zzEqBS p2 y.length c2 u w3 (by rw [Lib.size_eq, hu]) hyl (by rw [hu]; exact hin)
          have HCK := Lib.hid CK
          have HCE := Lib.hid CE
          have HRr4 := Lib.hid hrr3
          have HRow4 := Lib.hid hrow9
          have HAp4 := Lib.hid hap2
          have HKp4 := Lib.hid hkp3
          have hnn : ((k1 : Int) + 1 != (k1 : Int) + 1) = false := bne_no rfl
          clear CK CE hrr3 hrow9 hap2 hkp3 hin hrow2 hf3 hk3 hcells3 hx hl2' HCN
          go_wp2_with (first | (go_at_call 15; refine HCK.out.mono ?_; rintro x w4 ⟨⟨u, rfl, hu, hus⟩, hw⟩; have hw := hw.symm; subst hw; have HU := Lib.hid hu; clear hu) | (go_at_call 11; refine (HCE.out _ HU.out).mono ?_; rintro x w4 ⟨rfl, q, rfl⟩))
          go_roundg (ls.length - (k1 + 1))
          case measure => have := HKg.out; omega
          case rel => exact ⟨k1 + 1, c + 1, _, by go_num, by go_num, by omega, by omega, HRr4.out.keep (keep_drewN _ q) (fun k h => h.elim), HRow4.out, HAp4.out, HKp4.out.drewN q⟩
  · have h1 : (1048576 : Int) < (s.size : Int) := by omega
    go_enter Tryd.func6, Tryd.ntmps6
    go_wp2
    go_ret
    exact ⟨rfl, Below.refl _ _⟩
end Go.Proofs.Qxb6604708aDoor
