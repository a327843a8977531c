/-
  seat b6604708aD: (*jsonl.Reader).Next, walked.
-/
import Derived.Test.Qxb6604708aDoorLines
namespace Go.Proofs.Qxb6604708aDoor
open Go Go.RowKit

/-- The bytes of an own row, as the library's contracts want them. -/
theorem bytes_of_own {w : World} {b n : Nat} {v : Value} {bs : List UInt8} (h : w.ownsRow b 5 1 v n (Lib.byteCells bs)) : ∃ p c, v = .slice p n c ∧ n = bs.length ∧ n ≤ c ∧ c ≤ 9223372036854775807 ∧ Lib.BytesIn w p n (bs.map fun b => (b.toNat : Int)) := by
  have hl : n = bs.length := by have := h.1; rw [Lib.byteCells_length] at this; omega
  rcases h.2 with ⟨rfl, rfl⟩ | ⟨g, cap, cur, rfl, _, hg, hnc, hcm, _, htake⟩
  · exact ⟨none, 0, rfl, hl, Nat.le_refl _, by omega, Lib.BytesIn.nil _ _ _⟩
  · refine ⟨some ⟨g, 0, none⟩, cap, rfl, hl, hnc, by simp only [maxLen] at hcm; omega, fun _ => ⟨g, 0, rfl, fun i hi => ?_⟩⟩
    rw [nums_getD, block_cell hg]
    exact row_cell (r := 0) (a := n) (by rw [List.drop_zero, List.take_of_length_le (l := bs) (by omega)]; simpa using htake) (by omega) i hi

theorem ascii32 : ∀ (j : Nat) b, (⟨#[32]⟩ : ByteArray).data.toList[j]? = some b → b.toNat < 128 := fun j b h => by
  have : b ∈ [(32 : UInt8)] := List.mem_of_getElem? h
  simp at this
  subst this
  decide

/-- len(bytes.Trim(line, " ")). -/
theorem trim_sp {w : World} {b n : Nat} {v : Value} {bs : List UInt8} (h : w.ownsRow b 5 1 v n (Lib.byteCells bs)) :
    Calls Tryd.prog 27 #[v, .string ⟨#[32]⟩] w fun e w' => (∃ p c, e = .returned (.slice p (Lib.trimS bs [32]).length c)) ∧ Below w.heap.size w w' := by
  obtain ⟨p, c, rfl, hl, hnc, hbig, hin⟩ := bytes_of_own h
  have hcon := Any.bytes_Trim_laid Tryd.lays6 (by kernel_rfl) p n c (bs.map fun b => (b.toNat : Int)) ⟨#[32]⟩ w (by rw [List.length_map]; omega) hnc hbig hin (fun x hx => by
    obtain ⟨b, _, rfl⟩ := List.mem_map.1 hx
    have := b.toNat_lt
    omega) (by decide) ascii32
  rw [bytes_nums] at hcon
  refine Calls.mono (show Calls Tryd.prog 27 _ _ _ from hcon) ?_
  rintro e w' ⟨rfl, hb⟩
  refine ⟨?_, hb⟩
  have h1 : (Lib.trimS bs [32]).length ≤ (Lib.trimRightS bs [32]).length := by
    unfold Lib.trimS Lib.trimLeftS
    exact (List.dropWhile_suffix _).length_le
  show ∃ p' c', Ending.returned (Lib.leftV p (Lib.trimRightS bs [32]).length c ((Lib.trimRightS bs [32]).length - (Lib.trimS bs [32]).length)) = _
  unfold Lib.leftV Lib.fromV
  split
  · next he => exact ⟨_, _, by rw [show (Lib.trimS bs [32]).length = 0 by omega]⟩
  · exact ⟨_, _, by rw [show (Lib.trimRightS bs [32]).length - ((Lib.trimRightS bs [32]).length - (Lib.trimS bs [32]).length) = (Lib.trimS bs [32]).length by omega]⟩

theorem lined_pair {s : ByteArray} {N K p L : Nat} {limit num : Int} {v ev : Value} {w w' : World} {x : Ending} (h : Lined s N K p L limit num v ev w x w') : ∃ a b, x = .returned (.tuple #[a, b]) := by
  obtain ⟨v', _, _, h | h⟩ := h
  · exact ⟨_, _, h.2.1⟩
  · exact ⟨_, _, h.2.1⟩

/-- The reader with its row: what is left holds the kept lines R; c lines are given. -/
structure Rr (s : ByteArray) (N K L : Nat) (limit : Int) (c : Nat) (R : List (List UInt8)) (v : Value) (w : World) : Prop where
  rd : ∃ p, p ≤ s.size ∧ Rd s N K p limit c v w ∧ kept L (s.data.toList.drop p) = R
  row : ∃ n xs, w.ownsRow (N + 4) 5 1 v n xs

/-- How Next leaves things. -/
def Nexted (s : ByteArray) (N K L : Nat) (limit : Int) (c : Nat) (R : List (List UInt8)) (v ev : Value) (w : World) (x : Ending) (w' : World) : Prop := ∃ v', Fresh w v v' ∧ Keep (Own N v) w w' ∧ Rr s N K L limit (nextK R c).2.1 (nextK R c).2.2 v' w' ∧
  (((nextK R c).1 = none ∧ x = .returned (.tuple #[.slice none 0 0, .int .i64 (nextK R c).2.1, ev])) ∨
   ∃ y, (nextK R c).1 = some y ∧ x = .returned (.tuple #[v', .int .i64 (nextK R c).2.1, .nilIface]) ∧ w'.ownsRow (N + 4) 5 1 v' y.length (Lib.byteCells y))

set_option maxRecDepth 100000 in
set_option maxHeartbeats 4000000 in
theorem next (s : ByteArray) (N K L : Nat) (limit : Int) (c : Nat) (R : List (List UInt8)) (v ev fv : Value) (w : World) (hL : L = (limit + 1).toNat) (hl1 : -9223372036854775808 ≤ limit) (hl2 : limit < 9223372036854775807) (hc : c + R.length ≤ 1500000)
    (hs : s.size ≤ 2000000) (hK0 : 0 < K) (hK : K ≤ 2000000) (h : Rr s N K L limit c R v w) (hsent : Sent N ev fv w) :
    Calls Tryd.prog 20 #[.pointer (some ⟨N + 3, 0, none⟩)] w fun x w' => Nexted s N K L limit c R v ev w x w' := by
  have HRr := Lib.hid h
  have HSe := Lib.hid hsent
  have HL := Lib.hid hL
  obtain ⟨n0, xs0, hrow0⟩ := h.row
  have HRow := Lib.hid hrow0
  clear h hsent hL hrow0
  go_enter Tryd.func20, Tryd.ntmps20
  go_wp2_with fail
  go_loopg [2] R.length (fun g _ wx => ∃ c1 R1 v1, g = R1.length ∧ c1 + R1.length = c + R.length ∧ nextK R1 c1 = nextK R c ∧ Rr s N K L limit c1 R1 v1 wx ∧ Fresh w v v1 ∧ Keep (Own N v) w wx)
  case atStart => exact ⟨c, R, v, rfl, rfl, rfl, HRr.out, Fresh.refl _ _, Keep.refl _ _⟩
  case round =>
    obtain ⟨c1, R1, v1, hg, hcc, hnx, hrr, hfr, hkp⟩ := hrel
    have hse : Sent N ev fv wr := HSe.out.keep hkp (fun k hk => by
      rcases hk with hk | hk
      · omega
      · have := (HRow.out.lt k hk).1; omega)
    obtain ⟨⟨p, hp, hrd, hkt⟩, hrow⟩ := hrr
    have hrl := readLine s N K p L limit c1 v1 ev fv wr HL.out hl1 hl2 (by omega) (by omega) hs hK0 hK hp hrd hrow hse
    have HRl := Lib.hid hrl
    have HSe1 := Lib.hid hse
    have HG := Lib.hid hg
    have HNx := Lib.hid hnx
    have HFr := Lib.hid hfr
    have HKp := Lib.hid hkp
    have HKt := Lib.hid hkt
    have hown : ∀ k, Own N v1 k → Own N v k ∨ w.heap.size ≤ k := fun k hk => by
      rcases hk with hk | hk
      · exact Or.inl (Or.inl hk)
      · rcases hfr with hf | hf
        · exact Or.inl (Or.inr (hf ▸ hk))
        · exact Or.inr (hf k hk)
    have HOwn := Lib.hid hown
    clear hrl hse hg hnx hfr hkp hkt hown hrow hrd
    go_wp2_with (go_at_call 26; refine HRl.out.mono ?_; intro x w1 hln; obtain ⟨xa, xb, rfl⟩ := lined_pair hln; refine Hid.out ?_)
    refine Lib.hid ?_
    obtain ⟨v2, hf2, hk2, hcase⟩ := hln
    have hfr2 : Fresh w v v2 := HFr.out.trans HKp.out.size hf2
    have hkp2 : Keep (Own N v) w w1 := HKp.out.trans' hk2 HOwn.out
    have HFr2 := Lib.hid hfr2
    have HKp2 := Lib.hid hkp2
    clear hfr2 hkp2 hf2 hk2 HFr HKp HRl HOwn
    rcases hcase with ⟨hT, hx, hrd, hrow⟩ | ⟨hT, hx, hrd, hrow⟩
    · injection hx with hx
      injection hx with hx
      have hx1 := congrArg (·[0]?) hx
      have hx2 := congrArg (·[1]?) hx
      simp only [List.getElem?_toArray, List.getElem?_cons_zero, List.getElem?_cons_succ, Option.some.injEq] at hx1 hx2
      subst hx1 hx2
      have hR1 : R1 = [] := by rw [← HKt.out, hT, kept_nil]
      subst hR1
      have hnx : nextK R c = (none, c1, []) := by rw [← HNx.out]; rfl
      obtain ⟨et, ep, rfl⟩ := HSe.out.ev_iface
      have k2 : w1.cell? ⟨N + 3, 2, none⟩ = some (.int .i64 c1) := block_cell hrd.blk
      have HEnd : Hid (∀ q, Nexted s N K L limit c R v (.iface et ep) w (.returned (.tuple #[.slice none 0 0, .int .i64 c1, .iface et ep])) (w1.drewN q)) := Lib.hid fun q => by
        refine ⟨v2, HFr2.out, HKp2.out.drewN q, ?_, Or.inl ?_⟩
        · rw [hnx]
          obtain ⟨⟨r, e, hb⟩, hk⟩ := hrd
          exact ⟨⟨p, hp, ⟨⟨r, e, hb.of_heap rfl⟩, hk⟩, by rw [hT, kept_nil]⟩, hrow⟩
        · rw [hnx]
          exact ⟨rfl, rfl⟩
      clear hrd hrow hnx
      go_upto_region 3 with fail
      go_quiet (fail)
      go_wp2
      go_ret3
      exact HEnd.out _
    · injection hx with hx
      injection hx with hx
      have hx1 := congrArg (·[0]?) hx
      have hx2 := congrArg (·[1]?) hx
      simp only [List.getElem?_toArray, List.getElem?_cons_zero, List.getElem?_cons_succ, Option.some.injEq] at hx1 hx2
      have hx1 := hx1.symm
      subst hx1 hx2
      have k2 : w1.cell? ⟨N + 3, 2, none⟩ = some (.int .i64 ((c1 : Int) + 1)) := block_cell hrd.blk
      have htr := trim_sp hrow
      have HTr := Lib.hid htr
      have HRd := Lib.hid hrd
      have HRow2 := Lib.hid hrow
      clear htr hrd hrow
      go_wp2_with (go_at_call 27; refine HTr.out.mono ?_; rintro x w3 ⟨⟨pp, cc, rfl⟩, hb3⟩; refine Hid.out ?_)
      refine Lib.hid ?_
      have hk3 : Keep (fun _ => False) w1 w3 := Keep.of_below hb3 _
      have k3 : w3.cell? ⟨N + 3, 2, none⟩ = some (.int .i64 ((c1 : Int) + 1)) := by rw [hk3.cell (fun h => h) k2]; exact k2
      have hR1 : R1 = (lineOf (s.data.toList.drop p)).take L :: kept L (s.data.toList.drop (p + stepOf (s.data.toList.drop p))) := by
        rw [← HKt.out, kept_cons L hT, List.drop_drop]
      have hrr : Rr s N K L limit (c1 + 1) (kept L (s.data.toList.drop (p + stepOf (s.data.toList.drop p)))) v2 w3 := by
        obtain ⟨⟨r, e, hb⟩, hk⟩ := HRd.out
        refine ⟨⟨_, ?_, ⟨⟨r, e, ?_⟩, ?_⟩, rfl⟩, _, _, row_keep HRow2.out (fun k hk => hk3.block k (HRow2.out.lt k hk).2 (fun h => h))⟩
        · have := stepOf_le (s.data.toList.drop p)
          rw [List.length_drop, ← Lib.size_eq] at this
          omega
        · have hb' := hb
          obtain ⟨⟨pv, a1⟩, ⟨lb, ls, a2⟩, ⟨U, a3, _⟩, _⟩ := hb'
          exact hb.of_blocks (hk3.block _ (block_lt a1) (fun h => h)) (hk3.block _ (block_lt a2) (fun h => h)) (hk3.block _ (block_lt a3) (fun h => h))
        · rw [hk3.block _ (block_lt hk) (fun h => h)]
          exact_mod_cast hk
      have hrow3 := row_keep HRow2.out (fun k hk => hk3.block k (HRow2.out.lt k hk).2 (fun h => h))
      obtain ⟨R2, hR2⟩ : ∃ R2, R2 = kept L (s.data.toList.drop (p + stepOf (s.data.toList.drop p))) := ⟨_, rfl⟩
      obtain ⟨y, hy⟩ : ∃ y, y = (lineOf (s.data.toList.drop p)).take L := ⟨_, rfl⟩
      rw [← hR2] at hR1 hrr
      rw [← hy] at hR1 hrow3 ⊢
      have hkp3 : Keep (Own N v) w w3 := HKp2.out.trans (hk3.mono (fun k h => h.elim))
      have HRr3 := Lib.hid hrr
      have HRow3 := Lib.hid hrow3
      have HKp3 := Lib.hid hkp3
      have HR1 := Lib.hid hR1
      obtain ⟨tl, htl⟩ : ∃ tl, tl = (Lib.trimS y [32]).length := ⟨_, rfl⟩
      rw [← htl]
      have hblank : 0 < tl ↔ nonBlank y = true := by rw [htl]; exact trim_blank y
      clear hb3 hk3 hR1 hrr hrow3 hkp3 hR2 hy htl k2 HRd HRow2 HKt HTr
      by_cases hnb : nonBlank y = true
      · have htl0 : (0 : Int) < (tl : Int) := by have := hblank.2 hnb; omega
        have hnx : nextK R c = (some y, c1 + 1, R2) := by rw [← HNx.out, HR1.out]; unfold nextK; rw [if_pos hnb]
        obtain ⟨vp, vn, vc, rfl⟩ := slice_of_own HRow3.out
        have HEnd : Hid (∀ q, Nexted s N K L limit c R v ev w (.returned (.tuple #[.slice vp vn vc, .int .i64 ((c1 : Int) + 1), .nilIface])) (w3.drewN q)) := Lib.hid fun q => by
          refine ⟨_, HFr2.out, HKp3.out.drewN q, ?_, Or.inr ⟨y, ?_, ?_, HRow3.out⟩⟩
          · rw [hnx]
            obtain ⟨⟨p', hp', ⟨⟨r, e, hb⟩, hk⟩, hkt⟩, hrow⟩ := HRr3.out
            exact ⟨⟨p', hp', ⟨⟨r, e, hb.of_heap rfl⟩, hk⟩, hkt⟩, hrow⟩
          · rw [hnx]
          · rw [hnx]
            simp
        clear hblank hnb hnx
        go_upto_region 5 with fail
        go_quiet (fail)
        go_wp2
        go_ret3
        exact HEnd.out _
      · have htl0 : tl = 0 := by
          rcases Nat.eq_zero_or_pos tl with h | h
          · exact h
          · exact absurd (hblank.1 h) hnb
        subst htl0
        have hnx : nextK R2 (c1 + 1) = nextK R c := by
          rw [← HNx.out, HR1.out]
          conv => rhs; unfold nextK
          rw [if_neg hnb]
        have hln : R1.length = R2.length + 1 := by rw [HR1.out]; rfl
        have HNx2 := Lib.hid hnx
        have HLn := Lib.hid hln
        clear hblank hnb hnx hln
        go_wp2
        go_roundg R2.length
        case measure => have := HG.out; have := HLn.out; omega
        case rel => exact ⟨c1 + 1, R2, v2, rfl, by have := HLn.out; omega, HNx2.out, HRr3.out, HFr2.out, HKp3.out⟩
end Go.Proofs.Qxb6604708aDoor
