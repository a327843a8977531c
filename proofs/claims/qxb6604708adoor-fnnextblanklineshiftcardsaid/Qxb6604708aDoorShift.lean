/-
  seat b6604708aD: FnNextBlankLineShift, walked.
-/
import Derived.Test.Qxb6604708aDoorCount
namespace Go.Proofs.Qxb6604708aDoor
open Go Go.RowKit

/-- Two readers in one memory, apart: a at N, b at N + 4. -/
structure Two (s t : ByteArray) (N L : Nat) (limit : Int) (c : Nat) (R : List (List UInt8)) (cb : Nat) (Rb : List (List UInt8)) (va vb : Value) (w : World) : Prop where
  a : Rr s N 65536 L limit c R va w
  b : Rr t (N + 4) 65536 L limit cb Rb vb w
  hi : ∀ k, va.ownBlock = some k → N + 8 ≤ k
  ap : ∀ k, va.ownBlock = some k → vb.ownBlock ≠ some k
  sz : N + 8 ≤ w.heap.size

theorem Two.drewN {s t : ByteArray} {N L : Nat} {limit : Int} {c : Nat} {R : List (List UInt8)} {cb : Nat} {Rb : List (List UInt8)} {va vb : Value} {w : World} (h : Two s t N L limit c R cb Rb va vb w) (q : Nat) : Two s t N L limit c R cb Rb va vb (w.drewN q) :=
  ⟨h.a.keep (keep_drewN _ q) (fun _ h => h.elim), h.b.keep (keep_drewN _ q) (fun _ h => h.elim), h.hi, h.ap, h.sz⟩

theorem Two.bhi {s t : ByteArray} {N L : Nat} {limit : Int} {c : Nat} {R : List (List UInt8)} {cb : Nat} {Rb : List (List UInt8)} {va vb : Value} {w : World} (h : Two s t N L limit c R cb Rb va vb w) (k : Nat) (hk : vb.ownBlock = some k) : N + 8 ≤ k ∧ k < w.heap.size := by
  obtain ⟨n, xs, hr⟩ := h.b.row
  have := hr.lt k hk
  exact ⟨by omega, this.2⟩

/-- The first reader's turn. -/
theorem Two.turnA {s t : ByteArray} {N L : Nat} {limit : Int} {c c' : Nat} {R R' : List (List UInt8)} {cb : Nat} {Rb : List (List UInt8)} {va va' vb : Value} {w w' : World} (h : Two s t N L limit c R cb Rb va vb w) (hf : Fresh w va va') (hk : Keep (Own N va) w w') (hr : Rr s N 65536 L limit c' R' va' w') : Two s t N L limit c' R' cb Rb va' vb w' := by
  refine ⟨hr, h.b.keep hk ?_, ?_, ?_, Nat.le_trans h.sz hk.size⟩
  · rintro k (h1 | h1) (h2 | h2)
    · omega
    · have := (h.bhi k h2).1; omega
    · have := h.hi k h1; omega
    · exact h.ap k h1 h2
  · intro k hk'
    rcases hf with hf | hf
    · exact h.hi k (hf ▸ hk')
    · have := hf k hk'; have := h.sz; omega
  · intro k hk' hb
    rcases hf with hf | hf
    · exact h.ap k (hf ▸ hk') hb
    · have := hf k hk'; have := (h.bhi k hb).2; omega

/-- The second's. -/
theorem Two.turnB {s t : ByteArray} {N L : Nat} {limit : Int} {c : Nat} {R : List (List UInt8)} {cb cb' : Nat} {Rb Rb' : List (List UInt8)} {va vb vb' : Value} {w w' : World} (h : Two s t N L limit c R cb Rb va vb w) (hf : Fresh w vb vb') (hk : Keep (Own (N + 4) vb) w w') (hr : Rr t (N + 4) 65536 L limit cb' Rb' vb' w') : Two s t N L limit c R cb' Rb' va vb' w' := by
  refine ⟨h.a.keep hk ?_, hr, h.hi, ?_, Nat.le_trans h.sz hk.size⟩
  · rintro k (h1 | h1) (h2 | h2)
    · omega
    · have := h.hi k h2; omega
    · have := (h.bhi k h1).1; omega
    · exact h.ap k h2 h1
  · intro k hk' hb
    rcases hf with hf | hf
    · exact h.ap k hk' (hf ▸ hb)
    · have := hf k hb
      obtain ⟨n, xs, hr⟩ := h.a.row
      have := (hr.lt k hk').2
      omega

theorem Two.rowB {s t : ByteArray} {N L : Nat} {limit : Int} {c : Nat} {R : List (List UInt8)} {cb : Nat} {Rb : List (List UInt8)} {va vb : Value} {w w' : World} {n : Nat} {xs : List Value} (h : Two s t N L limit c R cb Rb va vb w) (hk : Keep (Own (N + 4) vb) w w') (hr : w.ownsRow (N + 4) 5 1 va n xs) : w'.ownsRow (N + 4) 5 1 va n xs :=
  row_keep hr (fun k hk' => hk.block k (hr.lt k hk').2 (fun ho => by
    rcases ho with h1 | h1
    · have := h.hi k hk'; omega
    · exact h.ap k hk' h1))

theorem own_a {s t : ByteArray} {N L : Nat} {limit : Int} {c : Nat} {R : List (List UInt8)} {cb : Nat} {Rb : List (List UInt8)} {va vb : Value} {w : World} (h : Two s t N L limit c R cb Rb va vb w) (k : Nat) (hk : Own N va k) : N ≤ k := by
  rcases hk with h1 | h1
  · exact h1.1
  · have := h.hi k h1; omega
theorem own_b {s t : ByteArray} {N L : Nat} {limit : Int} {c : Nat} {R : List (List UInt8)} {cb : Nat} {Rb : List (List UInt8)} {va vb : Value} {w : World} (h : Two s t N L limit c R cb Rb va vb w) (k : Nat) (hk : Own (N + 4) vb k) : N ≤ k := by
  rcases hk with h1 | h1
  · omega
  · have := (h.bhi k h1).1; omega

theorem phys_small (n : Nat) : ∀ T : List UInt8, T.length = n → ∀ y ∈ physOf T, y.length ≤ T.length := by
  induction n using Nat.strongRecOn with
  | ind n ih =>
    intro T hT y hy
    by_cases h : T = []
    · subst h
      rw [physOf_nil] at hy
      cases hy
    · rw [physOf_cons h] at hy
      rcases List.mem_cons.1 hy with rfl | hy
      · exact (List.takeWhile_prefix _).length_le
      · have h1 := stepOf_pos h
        have h3 : 0 < T.length := List.length_pos_iff.2 h
        have := ih (T.drop (stepOf T)).length (by rw [List.length_drop]; omega) _ rfl y hy
        rw [List.length_drop] at this
        omega
theorem kept_small {L : Nat} {l y : List UInt8} (h : y ∈ kept L l) : y.length ≤ l.length := by
  unfold kept at h
  obtain ⟨x, hx, rfl⟩ := List.mem_map.1 h
  have := phys_small _ l rfl x hx
  rw [List.length_take]
  omega

theorem two_data (s : ByteArray) : ((⟨#[32, 10]⟩ : ByteArray) ++ s).data.toList = 32 :: 10 :: s.data.toList := by simp
theorem two_size (s : ByteArray) : ((⟨#[32, 10]⟩ : ByteArray) ++ s).size = s.size + 2 := by
  rw [Lib.size_eq, two_data, Lib.size_eq]
  rfl

set_option maxRecDepth 100000 in
set_option maxHeartbeats 4000000 in
theorem shift (s : ByteArray) (limit : Int) (w : World) (ev fv : Value) (hl1 : -9223372036854775808 ≤ limit) (hl2 : limit ≤ 9223372036854775807) (hs0 : s.size ≤ 9223372036854775807) (hsent : Sent w.heap.size ev fv w) :
    Calls Tryd.prog 7 #[.string s, .int .i64 limit] w fun e w' => e = .returned (.bool true) ∧ Below w.heap.size w w' := by
  have HSe := Lib.hid hsent
  clear hsent
  by_cases hs : s.size ≤ 1048576
  · by_cases hmax : limit = 9223372036854775807
    · have hb := beq_yes hmax
      have h1 : ¬ (1048576 : Int) < (s.size : Int) := by omega
      go_enter Tryd.func7, Tryd.ntmps7
      go_wp2
      go_ret
      exact ⟨rfl, Below.refl _ _⟩
    · have hb := beq_no hmax
      have h1 : ¬ (1048576 : Int) < (s.size : Int) := by omega
      have hl3 : limit < 9223372036854775807 := by omega
      go_enter Tryd.func7, Tryd.ntmps7
      go_wp2_with (first | (go_at_call 21; refine (zzBytes21 s limit _ hs).mono ?_; rintro x w1 ⟨rfl, hw⟩; have hw := hw.symm; subst hw) | (go_at_call 9; refine (newReader s limit _).mono ?_; rintro x w1 ⟨rfl, U, hU, rfl⟩; refine Hid.out ?_))
      refine Lib.hid ?_
      obtain ⟨N, hN⟩ : ∃ N, N = w.heap.size := ⟨_, rfl⟩
      obtain ⟨L, hL⟩ : ∃ L, L = (limit + 1).toNat := ⟨_, rfl⟩
      have hrr := new_rr w s limit U L hU
      have hk1 := new_keep w s limit U
      have hsz1 := new_size w s limit U
      generalize newWorld w s limit U = w1 at hrr hk1 hsz1 ⊢
      rw [← hN] at hrr hsz1 ⊢
      have HRr := Lib.hid hrr
      have HK1 := Lib.hid hk1
      have HN := Lib.hid hN
      have HL := Lib.hid hL
      clear hrr hk1 hU hN hL
      obtain ⟨t, ht⟩ : ∃ t, t = (⟨#[32, 10]⟩ : ByteArray) ++ s := ⟨_, rfl⟩
      have htd : t.data.toList = 32 :: 10 :: s.data.toList := by rw [ht]; exact two_data s
      have hts : t.size = s.size + 2 := by rw [ht]; exact two_size s
      have HTd := Lib.hid htd
      have HTs := Lib.hid hts
      have HT := Lib.hid ht
      clear htd hts ht
      go_wp2_with (go_at_call 9; refine (newReader _ limit _).mono ?_; rintro x w2 ⟨rfl, U2, hU2, rfl⟩; refine Hid.out ?_)
      refine Lib.hid ?_
      rw [← HT.out]
      have hrr2 := new_rr w1 t limit U2 L hU2
      have hk2 := new_keep w1 t limit U2
      have hsz2 := new_size w1 t limit U2
      generalize newWorld w1 t limit U2 = w2 at hrr2 hk2 hsz2 ⊢
      rw [hsz1] at hrr2 hsz2
      have htwo : Two s t N L limit 0 (kept L s.data.toList) 0 (kept L t.data.toList) (.slice none 0 0) (.slice none 0 0) w2 := ⟨HRr.out.keep hk2 (fun k h => h.elim), hrr2, (fun k h => by cases h), (fun k h => by cases h), by omega⟩
      have hkw : Keep (fun k => N ≤ k) w w2 := (HK1.out.mono (fun k h => h.elim)).trans (hk2.mono (fun k h => h.elim))
      have HTwo := Lib.hid htwo
      have HKw := Lib.hid hkw
      clear htwo hkw hrr2 hk2 hU2 HRr HK1 hsz2
      have CC := zzCount s w2 hs
      obtain ⟨P, hP⟩ : ∃ P, P = (physOf s.data.toList).length := ⟨_, rfl⟩
      rw [← hP] at CC
      have HCC := Lib.hid CC
      have hPk : (kept L s.data.toList).length = P := by rw [hP]; unfold kept; rw [List.length_map]
      have hPs : P ≤ s.size := by
        have := kept_length L s.data.toList
        rw [hPk, ← Lib.size_eq] at this
        exact this
      have HPk := Lib.hid hPk
      clear CC hP hPk
      go_wp2_with (go_at_call 17; refine HCC.out.mono ?_; rintro x w3 ⟨rfl, hw⟩; have hw := hw.symm; subst hw; refine Hid.out ?_)
      refine Lib.hid ?_
      go_wp2_with fail
      go_loopg [8, 9] P (fun g x8 x9 wx => ∃ (c st : Nat) (R : List (List UInt8)) (cb : Nat) (Rb : List (List UInt8)) (va vb : Value), x8 = .int .i64 c ∧ x9 = .int .i64 st ∧ g = R.length ∧ c + R.length = P ∧ st + R.length ≤ s.size ∧ nextK Rb cb = nextK R (c + 1) ∧ cb + Rb.length = P + 1 ∧ (∀ y ∈ R, y ∈ kept L s.data.toList) ∧ Two s t N L limit c R cb Rb va vb wx ∧ Keep (fun k => N ≤ k) w wx)
      case atStart =>
        refine ⟨0, 0, kept L s.data.toList, 0, kept L t.data.toList, _, _, rfl, rfl, HPk.out.symm, by rw [HPk.out]; omega, by rw [HPk.out]; omega, ?_, ?_, fun y hy => hy, HTwo.out, HKw.out⟩
        · rw [HTd.out, kept_blank, nextK_blank]
        · rw [HTd.out, kept_blank, List.length_cons, HPk.out]; omega
      case round =>
        obtain ⟨c, st, R, cb, Rb, va, vb, rfl, rfl, hg, hcR, hst, hnx, hcb, hsh, htwo, hkw⟩ := hrel
        have hse : Sent N ev fv wr := by rw [HN.out]; exact HSe.out.keep hkw (fun k h => by rw [← HN.out]; exact h)
        have CA := next s N 65536 L limit c R va ev fv wr HL.out hl1 hl3 (by omega) (by omega) (by omega) (by omega) htwo.a hse
        have hsti : (st : Int) ≤ (s.size : Int) := by omega
        have HTw := Lib.hid htwo
        have HKw2 := Lib.hid hkw
        have HSe2 := Lib.hid hse
        have HG := Lib.hid hg
        have HSt := Lib.hid hst
        have HNx := Lib.hid hnx
        have HSh := Lib.hid hsh
        have HCA := Lib.hid CA
        have HCR := Lib.hid hcR
        have HCB := Lib.hid hcb
        obtain ⟨et, ep, rfl⟩ := hse.ev_iface
        clear htwo hkw hse hg hst hnx hsh CA
        rcases nextK_cases R c with hn | ⟨y, k, R', hn, hck, hkR, hyb, hyR, hR'⟩
        · -- the end
          have hn2 : nextK Rb cb = (none, P + 1, []) := by rw [HNx.out, nextK_shift, hn, hcR]
          rw [hcR] at hn
          have HN1 := Lib.hid hn
          have HN2 := Lib.hid hn2
          clear hn hn2
          have hnil : ∀ W : World, (binOp .eql 25 (.slice none 0 0) (.slice none 0 0)).run Tryd.prog W = .ok (.bool true) W := fun W => by kernel_rfl
          go_wp2_with (go_at_call 20; refine HCA.out.mono ?_; rintro x w3 ⟨v2, hf3, hk3, hrr3, hx⟩; obtain rfl := nexted_none HN1.out hx; refine Hid.out ?_)
          refine Lib.hid ?_
          have htw3 := HTw.out.turnA hf3 hk3 hrr3
          have hkw3 : Keep (fun k => N ≤ k) w w3 := HKw2.out.trans (hk3.mono (own_a HTw.out))
          have hse3 : Sent (N + 4) (.iface et ep) fv w3 := (HSe2.out.keep hk3 (own_a HTw.out)).at (by omega)
          have CB := next t (N + 4) 65536 L limit cb Rb vb (.iface et ep) fv w3 HL.out hl1 hl3 (by omega) (by rw [HTs.out]; omega) (by omega) (by omega) htw3.b hse3
          have HCB2 := Lib.hid CB
          have HBel : Hid (∀ W, Keep (Own (N + 4) vb) w3 W → Below w.heap.size w W) := Lib.hid fun W hW => (hkw3.trans (hW.mono (own_b htw3))).below (Nat.le_refl _) (fun k hk => by have := HN.out; omega)
          clear CB hse3 hkw3 htw3 hrr3 hk3 hf3 hx
          go_wp2_with (go_at_call 20; refine HCB2.out.mono ?_; rintro x w4 ⟨v4, hf4, hk4, hrr4, hx⟩; obtain rfl := nexted_none HN2.out hx; have HB4 := Lib.hid (HBel.out _ hk4); clear hf4 hk4 hrr4 hx)
          go_ret
          exact ⟨by simp, HB4.out⟩
        · have hn2 : nextK Rb cb = (some y, k + 1, R') := by rw [HNx.out, nextK_shift, hn]
          have HN1 := Lib.hid hn
          have HN2 := Lib.hid hn2
          have hyl : y.length ≤ L := kept_short (HSh.out y hyR)
          have hyS : y.length ≤ 2000000 := by
            have := kept_small (HSh.out y hyR)
            rw [← Lib.size_eq] at this
            omega
          have hy0 := nonBlank_pos hyb
          have HYb := Lib.hid hyb
          have HRR := Lib.hid hR'
          have hlim : ¬ limit < 0 := fun h => by have := HL.out; omega
          clear hn hn2 hyb hR' hyR
          go_wp2_with (go_at_call 20; refine HCA.out.mono ?_; rintro x w3 ⟨v2, hf3, hk3, hrr3, hx⟩; obtain ⟨rfl, hrow3⟩ := nexted_some HN1.out hx; obtain ⟨p2, c2, rfl, hl2', _, _, hin⟩ := bytes_of_own hrow3; refine Hid.out ?_)
          refine Lib.hid ?_
          rw [HN1.out] at hrr3
          have htw3 := HTw.out.turnA hf3 hk3 hrr3
          have hkw3 : Keep (fun k => N ≤ k) w w3 := HKw2.out.trans (hk3.mono (own_a HTw.out))
          have hse3 : Sent (N + 4) (.iface et ep) fv w3 := (HSe2.out.keep hk3 (own_a HTw.out)).at (by omega)
          have CB := next t (N + 4) 65536 L limit cb Rb vb (.iface et ep) fv w3 HL.out hl1 hl3 (by omega) (by rw [HTs.out]; omega) (by omega) (by omega) htw3.b hse3
          have HCB2 := Lib.hid CB
          have HTw3 := Lib.hid htw3
          have HKw3 := Lib.hid hkw3
          have HRow3 := Lib.hid hrow3
          clear CB hse3 hkw3 htw3 hrr3 hk3 hf3 hx hin hrow3 hl2' HCA
          go_wp2_with (go_at_call 20; refine HCB2.out.mono ?_; rintro x w4 ⟨v4, hf4, hk4, hrr4, hx⟩; obtain ⟨rfl, hrow4⟩ := nexted_some HN2.out hx; obtain ⟨p4, c4, rfl, hl4', _, _, hin4⟩ := bytes_of_own hrow4; refine Hid.out ?_)
          refine Lib.hid ?_
          rw [HN2.out] at hrr4
          have htw4 := HTw3.out.turnB hf4 hk4 hrr4
          have hkw4 : Keep (fun k => N ≤ k) w w4 := HKw3.out.trans (hk4.mono (own_b HTw3.out))
          have hrow34 := HTw3.out.rowB hk4 HRow3.out
          obtain ⟨p2', c2', hpp, _, _, _, hin3⟩ := bytes_of_own hrow34
          injection hpp with e1 _ e3
          subst e1 e3
          have CE := zzEqBB p2 p4 y.length c2 c4 y w4 rfl hyS hin3 hin4
          have CN : ∀ q, Calls Tryd.prog 23 #[.slice p2 y.length c2] (w4.drewN q) fun e w' => e = .returned (.bool true) ∧ w' = w4.drewN q := fun q => by
            have := zzNonBlankB p2 y.length c2 y (w4.drewN q) rfl hyS hin3
            rw [HYb.out] at this
            exact this
          have HCE := Lib.hid CE
          have HCN := Lib.hid CN
          have HTw4 := Lib.hid htw4
          have HKw4 := Lib.hid hkw4
          clear CE CN htw4 hkw4 hrow34 hin3 hin4 hrow4 hf4 hk4 hx hl4' HCB2 HRow3 hrr4
          have b1 : ((k : Int) + 1 != (k : Int) + 1) = false := bne_no rfl
          have b2 : ¬ (k : Int) ≤ (c : Int) := by omega
          have b3 : ¬ (P : Int) < (k : Int) := by omega
          have b4 : ¬ limit + 1 < (y.length : Int) := by have := HL.out; omega
          go_wp2_with (first | (go_at_call 22; refine HCE.out.mono ?_; rintro x w5 ⟨rfl, q, rfl⟩) | (go_at_call 23; refine (HCN.out _).mono ?_; rintro x w5 ⟨rfl, rfl⟩))
          go_roundg R'.length
          case measure => have := HG.out; omega
          case rel => exact ⟨k, st + 1, R', k + 1, R', _, _, by go_num, by go_num, rfl, by omega, by have := HSt.out; omega, rfl, by omega, fun z hz => HSh.out z (HRR.out z hz), HTw4.out.drewN _, HKw4.out.drewN _⟩
  · have h1 : (1048576 : Int) < (s.size : Int) := by omega
    go_enter Tryd.func7, Tryd.ntmps7
    go_wp2
    go_ret
    exact ⟨rfl, Below.refl _ _⟩
end Go.Proofs.Qxb6604708aDoor
