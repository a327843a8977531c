/-
  seat b6604296aD: the one-pass model (zzTableB1ModelDecimal), walked: what it returns at a JSON number.
-/
import Derived.Test.Qxb6604296aDoorProg
import Derived.Test.Qxb6604296aDoorShape
import Derived.WalkKit
import Derived.WalkLawsBesides
import Derived.WalkSpells
import Derived.Outline
import Derived.Deep.Cut
import Derived.Deep.CutBlock
import Derived.Deep.LoopGhost
import Derived.Deep.QuietTactic
import Derived.BigQuiet
import Derived.Laws.IdiomStrings
import Derived.OwnWalk
import Derived.Lib.Hide
namespace Go.Proofs.Qxb6604296aDoor
open Go Go.RowKit

theorem infoByte : (Tryd.prog.info? 5).map (fun i => (i.zero, i.size, i.bytes)) = some (some (.int .u8 0), 1, 1) := by kernel_rfl
/-- Bytes as cells. -/
def bc (l : List UInt8) : List Value := l.map fun x => .int .u8 x.toNat
theorem bc_append (a b : List UInt8) : bc (a ++ b) = bc a ++ bc b := List.map_append
theorem bc_length (a : List UInt8) : (bc a).length = a.length := List.length_map _

/-- What the model answers: the zero decimal where no digit counts. -/
def ModelEnd (l : List UInt8) (a b c : Nat) (E : Int) (e : Ending) : Prop :=
  e = if (Pl.st l a c).2.1 = [] then .returned (.tuple #[.bool false, .string ⟨#[]⟩, .int .i64 0])
    else .returned (.tuple #[.bool (decide (a = 1)), .string ⟨(Pl.st l a c).2.1.toArray⟩, .int .i64 ((b : Int) - a - (Pl.st l a c).1 + E)])

theorem bne_of {x y : Int} (h : x ≠ y) : (x != y) = true := by simp [h]
theorem beq_no {x y : Int} (h : x ≠ y) : (x == y) = false := by simp [h]
theorem beq_yes {x y : Int} (h : x = y) : (x == y) = true := by simp [h]
theorem ne_of_nat {x : UInt8} {n : Nat} (hn : n < 256) (h : (x.toNat : Int) ≠ n) : x ≠ UInt8.ofNat n := fun e => h (by rw [e, UInt8.toNat_ofNat_of_lt' (by omega)])

theorem ret3 {b : Bool} {s : ByteArray} {x y : Int} (h : x = y) : Ending.returned (.tuple #[.bool b, .string s, .int .i64 x]) = .returned (.tuple #[.bool b, .string s, .int .i64 y]) := by rw [h]

/-- The exponent that is read: 0 where there is none. -/
def ExpIs (l : List UInt8) (c : Nat) (E : Int) : Prop := (c = l.length ∧ E = 0) ∨ ∃ d m, Pl.Ex l c d m ∧ E = if m = true then -(min (Pl.se l d l.length) Pl.big : Int) else (min (Pl.se l d l.length) Pl.big : Int)

/-- At a place in the mantissa: the point, or a digit. -/
theorem at_mant {l : List UInt8} {a b c k : Nat} {x : UInt8} (h : Pl.P2 l a b c) (h1 : a ≤ k) (h2 : k < c) (hx : l[k]? = some x) : (k = b ∧ x = 46) ∨ (k ≠ b ∧ Pl.Dg x) := by
  rcases h.fr with e | ⟨e1, e2, e3⟩
  · have := h.p1.lt
    exact Or.inr ⟨by omega, h.p1.dg k x h1 (by omega) hx⟩
  · by_cases hk : k = b
    · subst hk; rw [e1] at hx; cases hx; exact Or.inl ⟨rfl, rfl⟩
    · by_cases hlt : k < b
      · exact Or.inr ⟨hk, h.p1.dg k x h1 hlt hx⟩
      · exact Or.inr ⟨hk, e3 k x (by omega) h2 hx⟩

set_option maxRecDepth 100000 in
set_option maxHeartbeats 4000000 in
theorem model (s : ByteArray) (w : World) (hs : s.size ≤ 1048576) (a b c : Nat) (E : Int) (h2 : Pl.P2 s.data.toList a b c) (hE : ExpIs s.data.toList c E) :
    Calls Tryd.prog 7 #[.string s] w fun e w' => ModelEnd s.data.toList a b c E e ∧ Below w.heap.size w w' := by
  have hl := Pl.len_ s
  have hat := Pl.at_ s
  have hp : 0 < s.size := by have := h2.p1.lt; have := h2.p1.le; omega
  have hcn : c ≤ s.size := by have := h2.le; omega
  have hab : a < b := h2.p1.lt
  have hbc : b ≤ c := h2.bc
  have H2 : Hid (Pl.P2 s.data.toList a b c) := h2
  have HL : Hid (s.data.toList.length = s.size) := hl
  have HA : Hid (∀ (i : Nat) (h : i < s.size), s.data.toList[i]? = some s[i]) := hat
  obtain ⟨i0, hi, hz0, hz1, hz2⟩ := info_parts infoByte
  have hsg := h2.p1.sg
  have HE : Hid (ExpIs s.data.toList c E) := hE
  clear h2 hl hat hE
  go_enter Tryd.func7, Tryd.ntmps7
  go_upto_if 19 with fail
  go_cut [5, 6] from 17 (fun i n wc => wc = w ∧ i = .int .i64 a ∧ n = .bool (decide (a = 1)))
  case first =>
    rcases hsg with ⟨h0, hne⟩ | ⟨h1, he⟩
    · have hb : ((s[0].toNat : Int) == 45) = false := beq_no (fun e => hne (by rw [HA.out 0 hp, Pl.byte_of (n := 45) (by omega) e]; rfl))
      have H0 : Hid (a = 0) := h0
      clear h0 hne
      go_wp2
      go_meet
      rw [H0.out]
      exact ⟨rfl, rfl, rfl⟩
    · have hb : ((s[0].toNat : Int) == 45) = true := beq_yes (by rw [HA.out 0 hp] at he; injection he with he; rw [he]; rfl)
      have H0 : Hid (a = 1) := h1
      clear h1 he
      go_wp2
      go_meet
      rw [H0.out]
      exact ⟨rfl, rfl, rfl⟩
  case rest =>
  obtain ⟨rfl, rfl, rfl⟩ := hcut
  clear hsg
  go_upto_block 0 with fail
  go_cut [5, 7, 8, 9, 11] from 17 (fun i v nd ld sn wr => i = .int .i64 c ∧ (∃ m : Nat, Hid (m = b - a) ∧ m ≤ c ∧ nd = .int .i64 m) ∧ ld = .int .i64 (Pl.st s.data.toList a c).1 ∧ (∃ q : Bool, Hid (q = decide ((Pl.st s.data.toList a c).2.1 ≠ [])) ∧ sn = .bool q) ∧
      wr.ownsRow wc.heap.size 5 1 v (Pl.st s.data.toList a c).2.1.length (bc (Pl.st s.data.toList a c).2.1) ∧ Below wc.heap.size wc wr)
  case first =>
    go_wp2_with fail
    go_loopg [5, 7, 8, 9, 10, 11, 12] (c - a) (fun g i v nd ld pd sn fr wr => ∃ k : Nat, k + g = c ∧ a ≤ k ∧ i = .int .i64 k ∧ (∃ m : Nat, Hid (m = min k b - a) ∧ m ≤ k ∧ nd = .int .i64 m) ∧ ld = .int .i64 (Pl.st s.data.toList a k).1 ∧ pd = .int .i64 (Pl.st s.data.toList a k).2.2 ∧
        (∃ q : Bool, Hid (q = decide ((Pl.st s.data.toList a k).2.1 ≠ [])) ∧ sn = .bool q) ∧ (∃ f : Bool, Hid (f = decide (b < k)) ∧ fr = .bool f) ∧
        wr.ownsRow wc.heap.size 5 1 v (Pl.st s.data.toList a k).2.1.length (bc (Pl.st s.data.toList a k).2.1) ∧ Below wc.heap.size wc wr)
    case atStart =>
      refine ⟨a, by omega, Nat.le_refl _, rfl, ⟨0, by show 0 = min a b - a; omega, by omega, rfl⟩, by rw [Pl.st_zero]; rfl, by rw [Pl.st_zero]; rfl, ⟨false, by show false = _; rw [Pl.st_zero]; simp, rfl⟩, ⟨false, by show false = _; simp; omega, rfl⟩, ?_, Below.refl _ _⟩
      rw [Pl.st_zero]
      exact World.ownsRow_nil _ _ _ _
    case round =>
      obtain ⟨k, hkg, hak, rfl, ⟨m, Hm, hmk, rfl⟩, rfl, rfl, ⟨q, Hq, rfl⟩, ⟨f, Hf, rfl⟩, hown, hb⟩ := hrel
      obtain ⟨g0, rfl⟩ : ∃ g0 : Nat, g0 = gk := ⟨_, rfl⟩
      obtain ⟨wo, rfl⟩ : ∃ wo : World, wo = wr := ⟨_, rfl⟩
      have HK : Hid (k + g0 = c) := hkg
      have hkc : k ≤ c := by omega
      clear hkg
      have hst := Pl.st_len s.data.toList a k
      by_cases hk : k < c
      · have hkn : k < s.size := by omega
        rcases at_mant H2.out hak hk (HA.out k hkn) with ⟨hkb, hx⟩ | ⟨hkb, hx⟩
        · have e46 : (s[k].toNat : Int) = 46 := by rw [hx]; rfl
          have t1 := bne_of (x := (s[k].toNat : Int)) (y := 101) (by omega)
          have t2 := bne_of (x := (s[k].toNat : Int)) (y := 69) (by omega)
          have t3 := beq_yes e46
          have HX : Hid (s[k] = 46) := hx
          have HB : Hid (k = b) := hkb
          clear hx hkb e46
          go_wp2
          go_roundg (g0 - 1)
          case measure => have := HK.out; omega
          case rel =>
            have hx' : s.data.toList[k]? = some 46 := by rw [HA.out k hkn, HX.out]
            have e := HB.out
            refine ⟨k + 1, by have := HK.out; omega, by omega, by go_num, ⟨m, by show m = min (k + 1) b - a; rw [Hm.out]; omega, by omega, rfl⟩, by rw [Pl.st_dot hak hx'], by rw [Pl.st_dot hak hx'], ⟨q, by show q = _; rw [Pl.st_dot hak hx']; exact Hq.out, rfl⟩, ⟨true, by show true = _; simp; omega, rfl⟩, ?_, hb⟩
            rw [Pl.st_dot hak hx']
            exact hown
        · have hd : 48 ≤ (s[k].toNat : Int) ∧ (s[k].toNat : Int) ≤ 57 := by have := hx.1; have := hx.2; omega
          have t1 := bne_of (x := (s[k].toNat : Int)) (y := 101) (by omega)
          have t2 := bne_of (x := (s[k].toNat : Int)) (y := 69) (by omega)
          have t3 := beq_no (x := (s[k].toNat : Int)) (y := 46) (by omega)
          have hx' := HA.out k hkn
          have hne46 : s[k] ≠ 46 := ne_of_nat (n := 46) (by omega) (by omega)
          -- the count of digits before the point
          have hm1 : m + 1 ≤ k + 1 := by omega
          have Hm1 : Hid ((f = false → m + 1 = min (k + 1) b - a) ∧ (f = true → m = min (k + 1) b - a) ∧ f = decide (b < k + 1)) := by
            have e1 := Hm.out
            have e2 := Hf.out
            refine ⟨fun h => ?_, fun h => ?_, ?_⟩
            · rw [h] at e2; have := of_decide_eq_false e2.symm; omega
            · rw [h] at e2; have := of_decide_eq_true e2.symm; omega
            · rw [e2]; congr 1; apply propext; omega
          have HX : Hid (s.data.toList[k]? = some s[k]) := hx'
          have HN : Hid (s[k] ≠ 46) := hne46
          clear hx hx' hkb hne46 Hm Hf
          by_cases h48 : (s[k].toNat : Int) = 48
          · have t4 := beq_yes h48
            have H48 : Hid (s.data.toList[k]? = some 48) := by show _ = _; rw [HX.out, Pl.byte_of (n := 48) (by omega) h48]; rfl
            clear h48 hd
            cases q with
            | false =>
              have hemp : Hid ((Pl.st s.data.toList a k).2.1 = []) := by have := of_decide_eq_false Hq.out.symm; show _ = _; simpa using this
              cases f with
              | false =>
                go_wp2
                go_roundg (g0 - 1)
                case measure => have := HK.out; omega
                case rel =>
                  refine ⟨k + 1, by have := HK.out; omega, by omega, by go_num, ⟨m + 1, Hm1.out.1 (by simp), by omega, by go_num⟩, by rw [Pl.st_ahead hak H48.out hemp.out]; go_num, by rw [Pl.st_ahead hak H48.out hemp.out], ⟨false, by show false = _; rw [Pl.st_ahead hak H48.out hemp.out]; exact Hq.out, rfl⟩, ⟨false, Hm1.out.2.2, rfl⟩, ?_, hb⟩
                  rw [Pl.st_ahead hak H48.out hemp.out]
                  exact hown
              | true =>
                go_wp2
                go_roundg (g0 - 1)
                case measure => have := HK.out; omega
                case rel =>
                  refine ⟨k + 1, by have := HK.out; omega, by omega, by go_num, ⟨m, Hm1.out.2.1 (by simp), by omega, rfl⟩, by rw [Pl.st_ahead hak H48.out hemp.out]; go_num, by rw [Pl.st_ahead hak H48.out hemp.out], ⟨false, by show false = _; rw [Pl.st_ahead hak H48.out hemp.out]; exact Hq.out, rfl⟩, ⟨true, Hm1.out.2.2, rfl⟩, ?_, hb⟩
                  rw [Pl.st_ahead hak H48.out hemp.out]
                  exact hown
            | true =>
              have hemp0 : (Pl.st s.data.toList a k).2.1 ≠ [] := of_decide_eq_true Hq.out.symm
              have hemp : Hid ((Pl.st s.data.toList a k).2.1 ≠ []) := hemp0
              clear hemp0
              cases f with
              | false =>
                go_wp2
                go_roundg (g0 - 1)
                case measure => have := HK.out; omega
                case rel =>
                  refine ⟨k + 1, by have := HK.out; omega, by omega, by go_num, ⟨m + 1, Hm1.out.1 (by simp), by omega, by go_num⟩, by rw [Pl.st_held hak H48.out hemp.out], by rw [Pl.st_held hak H48.out hemp.out]; go_num, ⟨true, by show true = _; rw [Pl.st_held hak H48.out hemp.out]; exact Hq.out, rfl⟩, ⟨false, Hm1.out.2.2, rfl⟩, ?_, hb⟩
                  rw [Pl.st_held hak H48.out hemp.out]
                  exact hown
              | true =>
                go_wp2
                go_roundg (g0 - 1)
                case measure => have := HK.out; omega
                case rel =>
                  refine ⟨k + 1, by have := HK.out; omega, by omega, by go_num, ⟨m, Hm1.out.2.1 (by simp), by omega, rfl⟩, by rw [Pl.st_held hak H48.out hemp.out], by rw [Pl.st_held hak H48.out hemp.out]; go_num, ⟨true, by show true = _; rw [Pl.st_held hak H48.out hemp.out]; exact Hq.out, rfl⟩, ⟨true, Hm1.out.2.2, rfl⟩, ?_, hb⟩
                  rw [Pl.st_held hak H48.out hemp.out]
                  exact hown
          · have t4 := beq_no h48
            have HZ : Hid (s[k] ≠ 48) := ne_of_nat (n := 48) (by omega) (by omega)
            clear h48
            obtain ⟨sg, hsg⟩ : ∃ sg, sg = (Pl.st s.data.toList a k).2.1 := ⟨_, rfl⟩
            obtain ⟨pd, hpd⟩ : ∃ pd, pd = (Pl.st s.data.toList a k).2.2 := ⟨_, rfl⟩
            rw [← hsg, ← hpd] at hst
            rw [← hsg] at hown
            rw [← hpd]
            have HS : Hid (sg = (Pl.st s.data.toList a k).2.1) := hsg
            have HP : Hid (pd = (Pl.st s.data.toList a k).2.2) := hpd
            clear hsg hpd Hq
            cases f with
            | false =>
              go_wp2
              go_loopg [7, 10] pd (fun g v p wx => ∃ j : Nat, j + g = pd ∧ p = .int .i64 g ∧ wx.ownsRow wc.heap.size 5 1 v (sg.length + j) (bc (sg ++ List.replicate j 48)) ∧ Below wc.heap.size wc wx)
              case atStart => exact ⟨0, by omega, rfl, by simpa using hown, hb⟩
              case round =>
                clear hown hb
                obtain ⟨j, hj, rfl, hown, hb⟩ := hrel
                have HJ : Hid (j + gk = pd) := hj
                have hjp : j ≤ pd := by omega
                have hgp : gk ≤ pd := by omega
                have hsz := hb.size
                clear hj
                by_cases hg : 0 < gk
                · go_wp2_with (at_builtin; refine wpList_append_own _ rfl _ _ 29 rfl wc.heap.size 5 i0 (.int .u8 0) 1 1 Tryd.underlying29 hi hz0 hz1 hz2 rfl (by decide) _ _ _ rfl (hown.alloc _) ⟨wr.heap.size, 0, none⟩ 1 1 [Value.int .u8 48] rfl rfl (cell_one_new _ _ _) (by intro u hu; simp at hu; subst hu; rfl) (by unfold maxLen; omega) (by omega) (by simp; omega) ?_)
                  intro v1 w1 hown1 hgrow _
                  have hb1 : Below wc.heap.size wc w1 := (hb.alloc hsz _).grown hgrow (by simp; omega) (fun k hk => (hown.lt k hk).1)
                  have eL : bc (sg ++ List.replicate j 48) ++ [Value.int .u8 48] = bc (sg ++ List.replicate (j + 1) 48) := by rw [List.replicate_succ', ← List.append_assoc, bc_append (sg ++ _)]; rfl
                  rw [eL] at hown1
                  clear hown hb hgrow eL
                  go_wp2
                  go_roundg (gk - 1)
                  case measure => omega
                  case rel => exact ⟨j + 1, by have := HJ.out; omega, by go_num, hown1, hb1⟩
                · have hg0 : gk = 0 := by omega
                  have hjj : j = pd := by have := HJ.out; omega
                  subst hg0 hjj
                  go_wp2_with (at_builtin; refine wpList_append_own _ rfl _ _ 29 rfl wc.heap.size 5 i0 (.int .u8 0) 1 1 Tryd.underlying29 hi hz0 hz1 hz2 rfl (by decide) _ _ _ rfl (hown.alloc _) ⟨wr.heap.size, 0, none⟩ 1 1 [Value.int .u8 s[k].toNat] rfl rfl (cell_one_new _ _ _) (by intro u hu; simp at hu; subst hu; rfl) (by unfold maxLen; omega) (by omega) (by simp; omega) ?_)
                  intro v1 w1 hown1 hgrow _
                  have hb1 : Below wc.heap.size wc w1 := (hb.alloc hsz _).grown hgrow (by simp; omega) (fun k hk => (hown.lt k hk).1)
                  have eL : bc (sg ++ List.replicate j 48) ++ [Value.int .u8 s[k].toNat] = bc (sg ++ List.replicate j 48 ++ [s[k]]) := by rw [bc_append (sg ++ _)]; rfl
                  have eN : sg.length + j + 1 = (sg ++ List.replicate j 48 ++ [s[k]]).length := by simp; omega
                  rw [eL, eN] at hown1
                  clear hown hb hgrow eL eN
                  go_wp2
                  go_roundg (g0 - 1)
                  case measure => have := HK.out; omega
                  case rel =>
                    have e := Pl.st_new hak HX.out HN.out HZ.out
                    rw [← HS.out, ← HP.out] at e
                    refine ⟨k + 1, by have := HK.out; omega, by omega, by go_num, ⟨m + 1, Hm1.out.1 (by simp), by omega, by go_num⟩, by rw [e], by rw [e]; rfl, ⟨true, by show true = _; rw [e]; simp, rfl⟩, ⟨false, Hm1.out.2.2, rfl⟩, by rw [e]; exact hown1, hb1⟩
            | true =>
              go_wp2
              go_loopg [7, 10] pd (fun g v p wx => ∃ j : Nat, j + g = pd ∧ p = .int .i64 g ∧ wx.ownsRow wc.heap.size 5 1 v (sg.length + j) (bc (sg ++ List.replicate j 48)) ∧ Below wc.heap.size wc wx)
              case atStart => exact ⟨0, by omega, rfl, by simpa using hown, hb⟩
              case round =>
                clear hown hb
                obtain ⟨j, hj, rfl, hown, hb⟩ := hrel
                have HJ : Hid (j + gk = pd) := hj
                have hjp : j ≤ pd := by omega
                have hgp : gk ≤ pd := by omega
                have hsz := hb.size
                clear hj
                by_cases hg : 0 < gk
                · go_wp2_with (at_builtin; refine wpList_append_own _ rfl _ _ 29 rfl wc.heap.size 5 i0 (.int .u8 0) 1 1 Tryd.underlying29 hi hz0 hz1 hz2 rfl (by decide) _ _ _ rfl (hown.alloc _) ⟨wr.heap.size, 0, none⟩ 1 1 [Value.int .u8 48] rfl rfl (cell_one_new _ _ _) (by intro u hu; simp at hu; subst hu; rfl) (by unfold maxLen; omega) (by omega) (by simp; omega) ?_)
                  intro v1 w1 hown1 hgrow _
                  have hb1 : Below wc.heap.size wc w1 := (hb.alloc hsz _).grown hgrow (by simp; omega) (fun k hk => (hown.lt k hk).1)
                  have eL : bc (sg ++ List.replicate j 48) ++ [Value.int .u8 48] = bc (sg ++ List.replicate (j + 1) 48) := by rw [List.replicate_succ', ← List.append_assoc, bc_append (sg ++ _)]; rfl
                  rw [eL] at hown1
                  clear hown hb hgrow eL
                  go_wp2
                  go_roundg (gk - 1)
                  case measure => omega
                  case rel => exact ⟨j + 1, by have := HJ.out; omega, by go_num, hown1, hb1⟩
                · have hg0 : gk = 0 := by omega
                  have hjj : j = pd := by have := HJ.out; omega
                  subst hg0 hjj
                  go_wp2_with (at_builtin; refine wpList_append_own _ rfl _ _ 29 rfl wc.heap.size 5 i0 (.int .u8 0) 1 1 Tryd.underlying29 hi hz0 hz1 hz2 rfl (by decide) _ _ _ rfl (hown.alloc _) ⟨wr.heap.size, 0, none⟩ 1 1 [Value.int .u8 s[k].toNat] rfl rfl (cell_one_new _ _ _) (by intro u hu; simp at hu; subst hu; rfl) (by unfold maxLen; omega) (by omega) (by simp; omega) ?_)
                  intro v1 w1 hown1 hgrow _
                  have hb1 : Below wc.heap.size wc w1 := (hb.alloc hsz _).grown hgrow (by simp; omega) (fun k hk => (hown.lt k hk).1)
                  have eL : bc (sg ++ List.replicate j 48) ++ [Value.int .u8 s[k].toNat] = bc (sg ++ List.replicate j 48 ++ [s[k]]) := by rw [bc_append (sg ++ _)]; rfl
                  have eN : sg.length + j + 1 = (sg ++ List.replicate j 48 ++ [s[k]]).length := by simp; omega
                  rw [eL, eN] at hown1
                  clear hown hb hgrow eL eN
                  go_wp2
                  go_roundg (g0 - 1)
                  case measure => have := HK.out; omega
                  case rel =>
                    have e := Pl.st_new hak HX.out HN.out HZ.out
                    rw [← HS.out, ← HP.out] at e
                    refine ⟨k + 1, by have := HK.out; omega, by omega, by go_num, ⟨m, Hm1.out.2.1 (by simp), by omega, rfl⟩, by rw [e], by rw [e]; rfl, ⟨true, by show true = _; rw [e]; simp, rfl⟩, ⟨true, Hm1.out.2.2, rfl⟩, by rw [e]; exact hown1, hb1⟩
      · have hkc' : k = c := by omega
        have HM : Hid (m = b - a) := by show m = b - a; rw [Hm.out]; omega
        subst hkc'
        clear Hm Hf hk hkc HK
        rcases HE.out with ⟨hkn, -⟩ | ⟨d, mm, hex, -⟩
        · have hkn' : ¬ k < s.size := by rw [HL.out] at hkn; omega
          clear hkn
          go_wp2
          go_meet
          exact ⟨rfl, ⟨m, HM, hmk, rfl⟩, rfl, ⟨q, Hq, rfl⟩, hown, hb⟩
        · have hkn : k < s.size := by have h1 := hex.lt; have h2 := hex.sign; rw [HL.out] at h1; omega
          have hmk' := hex.mark
          rw [HA.out k hkn] at hmk'
          clear hex
          by_cases h101 : (s[k].toNat : Int) = 101
          · have t1 : ((s[k].toNat : Int) != 101) = false := by simp [h101]
            clear h101 hmk'
            go_wp2
            go_meet
            exact ⟨rfl, ⟨m, HM, hmk, rfl⟩, rfl, ⟨q, Hq, rfl⟩, hown, hb⟩
          · have h69 : (s[k].toNat : Int) = 69 := by
              rcases hmk' with h | h
              · injection h with h; rw [h] at h101; exact absurd rfl h101
              · injection h with h; rw [h]; rfl
            have t1 := bne_of h101
            have t2 : ((s[k].toNat : Int) != 69) = false := by simp [h69]
            clear h101 hmk' h69
            go_wp2
            go_meet
            exact ⟨rfl, ⟨m, HM, hmk, rfl⟩, rfl, ⟨q, Hq, rfl⟩, hown, hb⟩
  case rest =>
    obtain ⟨rfl, ⟨m, Hm, hmc, rfl⟩, rfl, ⟨q, Hq, rfl⟩, hown, hb⟩ := hcut
    obtain ⟨w0, rfl⟩ : ∃ w0 : World, w0 = wc := ⟨_, rfl⟩
    have hst := Pl.st_len s.data.toList a c
    cases q with
    | false =>
      have hemp : (Pl.st s.data.toList a c).2.1 = [] := by have := of_decide_eq_false Hq.out.symm; simpa using this
      have HEm : Hid (ModelEnd s.data.toList a b c E (.returned (.tuple #[.bool false, .string ⟨#[]⟩, .int .i64 0]))) := by
        show _ = _; rw [if_pos hemp]
      clear hemp
      go_wp2
      go_ret3
      exact ⟨HEm.out, hb⟩
    | true =>
      have hemp : (Pl.st s.data.toList a c).2.1 ≠ [] := of_decide_eq_true Hq.out.symm
      have HEm : Hid (∀ e, e = Ending.returned (.tuple #[.bool (decide (a = 1)), .string ⟨(Pl.st s.data.toList a c).2.1.toArray⟩, .int .i64 ((b : Int) - a - (Pl.st s.data.toList a c).1 + E)]) → ModelEnd s.data.toList a b c E e) := by
        intro e he; show _ = _; rw [if_neg hemp]; exact he
      obtain ⟨sg, hsg⟩ : ∃ sg, sg = (Pl.st s.data.toList a c).2.1 := ⟨_, rfl⟩
      obtain ⟨ld, hld⟩ : ∃ ld, ld = (Pl.st s.data.toList a c).1 := ⟨_, rfl⟩
      rw [← hsg, ← hld] at HEm hst
      rw [← hsg] at hown hemp
      rw [← hld]
      have hpos : 0 < sg.length := List.length_pos_iff.2 hemp
      clear hsg hld Hq hemp
      rcases hown.2 with ⟨-, h0⟩ | ⟨g, cap, cur, rfl, -, -, -, -, -, -⟩
      · omega
      have hcv := fun nq : Nat => run_convert_bytes_back (P := Tryd.prog) (w0.drewN nq) 29 9 5 ⟨g, 0, none⟩ cap sg Tryd.underlying29 Tryd.underlying5 Tryd.underlying9 (fun j hj => by have h := hown.cells (g := g) rfl j (.int .u8 (sg[j].toNat : Int)) (by simp [bc, hj]); simpa using h)
      go_upto_if 70 with fail
      go_cut [14, 15] from 17 (fun e n wx => wx = w0 ∧ ∃ (ev : Nat) (mm : Bool), e = .int .i64 ev ∧ n = .bool mm ∧ ev ≤ 4611686018427387905 ∧ Hid (E = if mm = true then -(min ev Pl.big : Int) else (min ev Pl.big : Int)))
      case first =>
        rcases HE.out with ⟨hcn0, hE0⟩ | ⟨d, mm, hex, hE0⟩
        · have hcn' : ¬ c < s.size := by rw [HL.out] at hcn0; omega
          have HE0 : Hid (E = 0) := hE0
          clear hcn0 hE0
          go_wp2
          go_meet
          exact ⟨rfl, 0, false, rfl, rfl, by omega, by show E = _; rw [HE0.out]; rfl⟩
        · have hdn : d < s.size := by have h1 := hex.lt; rw [HL.out] at h1; exact h1
          have hcd : c < d := by have h2 := hex.sign; omega
          have hdc : d ≤ c + 2 := by have h2 := hex.sign; omega
          have HD : Hid (Pl.DgR s.data.toList d s.size) := by have h := hex.dg; rw [HL.out] at h; exact h
          have HE1 : Hid (E = if mm = true then -(min (Pl.se s.data.toList d s.size) Pl.big : Int) else (min (Pl.se s.data.toList d s.size) Pl.big : Int)) := by rw [HL.out] at hE0; exact hE0
          have hsign := hex.sign
          have HSg : Hid ((mm = false ∧ d = c + 1) ∨ (mm = false ∧ d = c + 2 ∧ s.data.toList[c + 1]? = some 43) ∨ (mm = true ∧ d = c + 2 ∧ s.data.toList[c + 1]? = some 45)) := hsign
          clear hex hE0 hsign
          have hc1 : c + 1 < s.size := by omega
          have hcl : c < s.size := by omega
          go_upto_if 82 with fail
          go_cut [5, 15] from 17 (fun i n wx => wx = w0 ∧ i = .int .i64 d ∧ n = .bool mm)
          case first =>
            rcases HSg.out with ⟨h1, h2⟩ | ⟨h1, h2, h3⟩ | ⟨h1, h2, h3⟩
            · have hx := HD.out (c + 1) s[c + 1] (by omega) hc1 (HA.out (c + 1) hc1)
              have t1 : ((s[c + 1].toNat : Int) == 43) = false := beq_no (by have := hx.1; omega)
              have t2 : ((s[c + 1].toNat : Int) == 45) = false := beq_no (by have := hx.1; omega)
              have H1 : Hid (mm = false ∧ d = c + 1) := ⟨h1, h2⟩
              clear h1 h2 hx
              go_wp2
              go_meet
              obtain ⟨h1, h2⟩ := H1.out
              rw [h1, h2]
              exact ⟨rfl, by go_num, rfl⟩
            · have t1 : ((s[c + 1].toNat : Int) == 43) = true := beq_yes (by rw [HA.out (c + 1) hc1] at h3; injection h3 with h3; rw [h3]; rfl)
              have H1 : Hid (mm = false ∧ d = c + 2) := ⟨h1, h2⟩
              clear h1 h2 h3
              go_wp2
              go_meet
              obtain ⟨h1, h2⟩ := H1.out
              rw [h1, h2]
              exact ⟨rfl, by go_num, rfl⟩
            · have e45 : (s[c + 1].toNat : Int) = 45 := by rw [HA.out (c + 1) hc1] at h3; injection h3 with h3; rw [h3]; rfl
              have t1 : ((s[c + 1].toNat : Int) == 43) = false := beq_no (by omega)
              have t2 : ((s[c + 1].toNat : Int) == 45) = true := beq_yes e45
              have H1 : Hid (mm = true ∧ d = c + 2) := ⟨h1, h2⟩
              clear h1 h2 h3 e45
              go_wp2
              go_meet
              obtain ⟨h1, h2⟩ := H1.out
              rw [h1, h2]
              exact ⟨rfl, by go_num, rfl⟩
          case rest =>
            obtain ⟨rfl, rfl, rfl⟩ := hcut
            go_wp2
            go_loopg [5, 14] (s.size - d) (fun g i e wy => wy = wc ∧ ∃ k : Nat, k + g = s.size ∧ d ≤ k ∧ i = .int .i64 k ∧ e = .int .i64 (Pl.se s.data.toList d k))
            case atStart => exact ⟨rfl, d, by omega, by omega, rfl, by rw [Pl.se_zero]; rfl⟩
            case round =>
              obtain ⟨rfl, k, hkg, hdk, rfl, rfl⟩ := hrel
              have HK : Hid (k + gk = s.size) := hkg
              have hkn1 : k ≤ s.size := by omega
              clear hkg
              have hse := Pl.se_le s.data.toList d k
              by_cases hk : k < s.size
              · have hx := HD.out k s[k] hdk hk (HA.out k hk)
                have hx1 : 48 ≤ (s[k].toNat : Int) := by have := hx.1; omega
                have hx2 : (s[k].toNat : Int) ≤ 57 := by have := hx.2; omega
                have HS := Lib.hid (Pl.se_succ hdk (HA.out k hk))
                clear hx
                obtain ⟨ev, hev⟩ : ∃ ev, ev = Pl.se s.data.toList d k := ⟨_, rfl⟩
                rw [← hev] at hse HS
                rw [← hev]
                clear hev
                by_cases h1 : (461168601842738790 : Int) < ev
                · go_wp2
                  go_roundg (gk - 1)
                  case measure => have := HK.out; omega
                  case rel => exact ⟨rfl, k + 1, by have := HK.out; omega, by omega, by go_num, by rw [HS.out]; unfold Pl.sat; rw [if_pos (by omega)]; rfl⟩
                · by_cases h2 : (4611686018427387904 : Int) < (ev : Int) * 10 + ((s[k].toNat : Int) - 48)
                  · go_wp2
                    go_roundg (gk - 1)
                    case measure => have := HK.out; omega
                    case rel => exact ⟨rfl, k + 1, by have := HK.out; omega, by omega, by go_num, by rw [HS.out]; unfold Pl.sat; rw [if_neg (by omega), if_pos (by simp only [Pl.big]; omega)]; rfl⟩
                  · go_wp2
                    go_roundg (gk - 1)
                    case measure => have := HK.out; omega
                    case rel => exact ⟨rfl, k + 1, by have := HK.out; omega, by omega, by go_num, by rw [HS.out]; unfold Pl.sat; rw [if_neg (by omega), if_neg (by simp only [Pl.big]; omega)]; go_num⟩
              · have hks : k = s.size := by omega
                subst hks
                clear HK
                go_wp2
                go_meet
                exact ⟨rfl, _, mm, rfl, rfl, hse, HE1.out⟩
      case rest =>
        obtain ⟨rfl, ev, mm, rfl, rfl, hev, HEV⟩ := hcut
        clear hown
        have hm2 : Hid ((m : Int) = (b : Int) - a) := by show (m : Int) = _; rw [Hm.out]; omega
        by_cases hbig : (4611686018427387904 : Int) < ev
        · cases mm with
          | false =>
            have HF : Hid (E = 4611686018427387904) := by have h := HEV.out; simp only [Bool.false_eq_true, if_false, Pl.big] at h; show E = _; omega
            clear HEV
            go_wp2
            go_quiet (fail)
            go_wp2
            go_ret3
            exact ⟨HEm.out _ (ret3 (by have h1 := hm2.out; have h2 := HF.out; omega)), below_drewN hb _⟩
          | true =>
            have HF : Hid (E = -4611686018427387904) := by have h := HEV.out; simp only [if_true, Pl.big] at h; show E = _; omega
            clear HEV
            go_wp2
            go_quiet (fail)
            go_wp2
            go_ret3
            exact ⟨HEm.out _ (ret3 (by have h1 := hm2.out; have h2 := HF.out; omega)), below_drewN hb _⟩
        · cases mm with
          | false =>
            have HF : Hid (E = ev) := by have h := HEV.out; simp only [Bool.false_eq_true, if_false, Pl.big] at h; show E = _; omega
            clear HEV
            go_wp2
            go_quiet (fail)
            go_wp2
            go_ret3
            exact ⟨HEm.out _ (ret3 (by have h1 := hm2.out; have h2 := HF.out; omega)), below_drewN hb _⟩
          | true =>
            have HF : Hid (E = -ev) := by have h := HEV.out; simp only [if_true, Pl.big] at h; show E = _; omega
            clear HEV
            go_wp2
            go_quiet (fail)
            go_wp2
            go_ret3
            exact ⟨HEm.out _ (ret3 (by have h1 := hm2.out; have h2 := HF.out; omega)), below_drewN hb _⟩
end Go.Proofs.Qxb6604296aDoor
