import Derived.Test.Qxb6604296aDoorProg
import Derived.Test.Qxb6604296aDoorShape
import Derived.WalkKit
import Derived.WalkLawsBesides
import Derived.WalkSpells
import Derived.Outline
import Derived.Deep.Cut
import Derived.Deep.LoopGhost
namespace Go.Proofs.Qxb6604296aDoor
open Go Go.RowKit

theorem isDigit_yes (c : Int) (w : World) (h1 : 48 ≤ c) (h2 : c ≤ 57) : Calls Tryd.prog 8 #[.int .u8 c] w fun e w' => e = .returned (.bool true) ∧ w' = w := by
  go_enter Tryd.func8, Tryd.ntmps8
  go_wp2
  go_ret
  exact ⟨rfl, rfl⟩
theorem isDigit_no (c : Int) (w : World) (h : ¬ (48 ≤ c ∧ c ≤ 57)) : Calls Tryd.prog 8 #[.int .u8 c] w fun e w' => e = .returned (.bool false) ∧ w' = w := by
  by_cases h1 : 48 ≤ c
  · have h2 : ¬ c ≤ 57 := fun h' => h ⟨h1, h'⟩
    clear h
    go_enter Tryd.func8, Tryd.ntmps8
    go_wp2
    go_ret
    exact ⟨by simp, rfl⟩
  · clear h
    go_enter Tryd.func8, Tryd.ntmps8
    go_wp2
    go_ret
    exact ⟨rfl, rfl⟩

/-- How the test ends: where it says yes, the bytes are a JSON number. -/
def JsonEnd (l : List UInt8) (e : Ending) : Prop := ∃ b, e = .returned (.bool b) ∧ (b = true → Pl.P3 l)
theorem nat_of_beq {a b : Nat} (h : ((a : Int) == (b : Int)) = true) : a = b := by
  have h' : (a : Int) = (b : Int) := by simpa using h
  omega
theorem JsonEnd.no (l : List UInt8) : JsonEnd l (.returned (.bool false)) := ⟨false, rfl, fun h => by cases h⟩

set_option maxRecDepth 100000 in
set_option maxHeartbeats 2000000 in
theorem json (s : ByteArray) (w : World) (hs : s.size ≤ 1048576) :
    Calls Tryd.prog 5 #[.string s] w fun e w' => JsonEnd s.data.toList e ∧ w' = w := by
  by_cases h0 : s.size = 0
  · go_enter Tryd.func5, Tryd.ntmps5
    go_wp2
    go_ret
    exact ⟨JsonEnd.no _, rfl⟩
  have hp : 0 < s.size := by omega
  have hat := Pl.at_ s
  have hl : Hid (s.data.toList.length = s.size) := Pl.len_ s
  have HA : Hid (∀ (i : Nat) (h : i < s.size), s.data.toList[i]? = some s[i]) := hat
  clear hat h0
  go_enter Tryd.func5, Tryd.ntmps5
  go_upto_if 17 with fail
  go_cut [4] from 7 (fun i wc => wc = w ∧ ∃ a : Nat, Pl.Sg s.data.toList a ∧ a ≤ 1 ∧ i = .int .i64 a)
  case first =>
    go_wp2
    · go_meet
      have h : (s[0].toNat : Int) = 45 := by simpa using ‹((s[0].toNat : Int) == 45) = true›
      exact ⟨rfl, 1, Or.inr ⟨rfl, by rw [HA.out 0 hp, Pl.byte_of (n := 45) (by omega) h]; rfl⟩, by omega, rfl⟩
    · go_meet
      have h : ¬ (s[0].toNat : Int) = 45 := by simpa using ‹((s[0].toNat : Int) == 45) = false›
      exact ⟨rfl, 0, Or.inl ⟨rfl, by rw [HA.out 0 hp]; intro e; injection e with e; rw [e] at h; exact h rfl⟩, by omega, rfl⟩
  case rest =>
    obtain ⟨rfl, a, hsg, ha1, rfl⟩ := hcut
    by_cases han : s.size ≤ a
    · go_wp2
      go_ret
      exact ⟨JsonEnd.no _, rfl⟩
    have hlt : a < s.size := by omega
    have hge : decide (s.size ≤ a) = false := decide_eq_false han
    clear han
    go_upto_if 26 with fail
    go_cut [4] from 7 (fun i wx => wx = wc ∧ ∃ b : Nat, Pl.P1 s.data.toList a b ∧ b ≤ s.size ∧ i = .int .i64 b)
    case first =>
      by_cases h48 : (s[a].toNat : Int) = 48
      · have hb48 : ((s[a].toNat : Int) == 48) = true := by simp [h48]
        have H48 : Hid ((s[a].toNat : Int) = 48) := h48
        clear h48
        go_wp2
        go_meet
        have h := H48.out
        exact ⟨rfl, a + 1, ⟨hsg, by omega, by rw [hl.out]; omega, (Pl.DgR.zero _ a).succ (HA.out a hlt) ⟨by omega, by omega⟩⟩, by omega, by go_num⟩
      have hb48 : ((s[a].toNat : Int) == 48) = false := by simp [h48]
      clear h48
      rw [hb48]
      try rw [hge]
      by_cases h49 : (49 : Int) ≤ (s[a].toNat : Int)
      · by_cases h57 : (s[a].toNat : Int) ≤ 57
        · go_wp2
          go_loopg [4] (s.size - a) (fun g i wy => wy = wc ∧ ∃ k : Nat, a ≤ k ∧ k + g = s.size ∧ Pl.DgR s.data.toList a k ∧ i = .int .i64 k)
          case atStart => exact ⟨rfl, a, by omega, by omega, Pl.DgR.zero _ a, rfl⟩
          case round =>
            obtain ⟨rfl, k, hk1, hk2, hd, rfl⟩ := hrel
            have HK : Hid (k + gk = s.size) := hk2
            have hk3 : k ≤ s.size := by omega
            clear hk2
            by_cases hkn : k < s.size
            · by_cases hdg : 48 ≤ (s[k].toNat : Int) ∧ (s[k].toNat : Int) ≤ 57
              · go_wp2_with (go_at_call 8; refine (isDigit_yes _ _ hdg.1 hdg.2).mono ?_; rintro e w' ⟨rfl, rfl⟩)
                go_roundg (gk - 1)
                case rel => exact ⟨rfl, k + 1, by omega, by have := HK.out; omega, hd.succ (HA.out k hkn) ⟨by omega, by omega⟩, by go_num⟩
                case measure => have := HK.out; omega
              · have hak : a < k := by
                  rcases Nat.lt_or_eq_of_le hk1 with h | rfl
                  · exact h
                  · exact absurd ⟨by omega, h57⟩ hdg
                go_wp2_with (go_at_call 8; refine (isDigit_no _ _ hdg).mono ?_; rintro e w' ⟨rfl, rfl⟩)
                go_meet
                exact ⟨rfl, k, ⟨hsg, hak, by rw [hl.out]; exact hk3, hd⟩, hk3, rfl⟩
            · go_wp2
              go_meet
              exact ⟨rfl, k, ⟨hsg, by omega, by rw [hl.out]; exact hk3, hd⟩, hk3, rfl⟩
        · go_wp2
          go_ret
          exact ⟨JsonEnd.no _, rfl⟩
      · go_wp2
        go_ret
        exact ⟨JsonEnd.no _, rfl⟩
    case rest =>
      obtain ⟨rfl, b, hp1, hbn, rfl⟩ := hcut
      clear hsg hlt ha1
      have H1 : Hid (Pl.P1 s.data.toList a b) := hp1
      clear hp1
      go_upto_region 13 with fail
      go_cut [58] from 7 (fun t wx => wx = wc ∧ ∃ v : Bool, t = .bool v ∧ (v = true → ∃ h : b < s.size, (s[b].toNat : Int) = 46))
      case first =>
        by_cases hb : b < s.size
        · go_wp2
          go_meet
          exact ⟨rfl, _, rfl, fun h => ⟨hb, by simpa using h⟩⟩
        · go_wp2
          go_meet
          exact ⟨rfl, _, rfl, fun h => by cases h⟩
      case rest =>
      obtain ⟨rfl, v, rfl, hv⟩ := hcut
      go_upto_if 58 with fail
      go_cut [4] from 7 (fun i wx => wx = wc ∧ ∃ c : Nat, Hid (Pl.P2 s.data.toList a b c) ∧ c ≤ s.size ∧ i = .int .i64 c)
      case first =>
        cases v with
        | false =>
          go_wp2
          go_meet
          exact ⟨rfl, b, ⟨H1.out, Nat.le_refl _, H1.out.le, Or.inl rfl⟩, hbn, rfl⟩
        | true =>
          obtain ⟨hb, hv46⟩ := hv rfl
          have HV : Hid ((s[b].toNat : Int) = 46) := hv46
          clear hv hv46
          go_wp2
          go_loopg [4] (s.size - (b + 1)) (fun g i wy => wy = wc ∧ ∃ k : Nat, b + 1 ≤ k ∧ k + g = s.size ∧ Pl.DgR s.data.toList (b + 1) k ∧ i = .int .i64 k)
          case atStart => exact ⟨rfl, b + 1, by omega, by omega, Pl.DgR.zero _ _, by go_num⟩
          case round =>
            obtain ⟨rfl, k, hk1, hk2, hd, rfl⟩ := hrel
            have HK : Hid (k + gk = s.size) := hk2
            have hk3 : k ≤ s.size := by omega
            clear hk2
            by_cases hdg : ∃ h : k < s.size, 48 ≤ (s[k].toNat : Int) ∧ (s[k].toNat : Int) ≤ 57
            · obtain ⟨hkn, hdg⟩ := hdg
              go_wp2_with (go_at_call 8; refine (isDigit_yes _ _ hdg.1 hdg.2).mono ?_; rintro e w' ⟨rfl, rfl⟩)
              go_roundg (gk - 1)
              case rel => exact ⟨rfl, k + 1, by omega, by have := HK.out; omega, hd.succ (HA.out k hkn) ⟨by omega, by omega⟩, by go_num⟩
              case measure => have := HK.out; omega
            · by_cases hbk : k = b + 1
              · subst hbk
                by_cases hkn : b + 1 < s.size
                · have hdg' : ¬ (48 ≤ (s[b + 1].toNat : Int) ∧ (s[b + 1].toNat : Int) ≤ 57) := fun h => hdg ⟨hkn, h⟩
                  go_wp2_with (go_at_call 8; refine (isDigit_no _ _ hdg').mono ?_; rintro e w' ⟨rfl, rfl⟩)
                  go_ret
                  exact ⟨JsonEnd.no _, rfl⟩
                · go_wp2
                  go_ret
                  exact ⟨JsonEnd.no _, rfl⟩
              · have hne : ((k : Int) == (b : Int) + 1) = false := beq_eq_false_iff_ne.2 (by omega)
                have hbk' : b + 1 < k := by omega
                clear hbk
                by_cases hkn : k < s.size
                · have hdg' : ¬ (48 ≤ (s[k].toNat : Int) ∧ (s[k].toNat : Int) ≤ 57) := fun h => hdg ⟨hkn, h⟩
                  go_wp2_with (go_at_call 8; refine (isDigit_no _ _ hdg').mono ?_; rintro e w' ⟨rfl, rfl⟩)
                  go_meet
                  exact ⟨rfl, k, ⟨H1.out, by omega, by rw [hl.out]; exact hk3, Or.inr ⟨by rw [HA.out b hb, Pl.byte_of (n := 46) (by omega) HV.out]; rfl, hbk', hd⟩⟩, hk3, rfl⟩
                · go_wp2
                  go_meet
                  exact ⟨rfl, k, ⟨H1.out, by omega, by rw [hl.out]; exact hk3, Or.inr ⟨by rw [HA.out b hb, Pl.byte_of (n := 46) (by omega) HV.out]; rfl, hbk', hd⟩⟩, hk3, rfl⟩
      case rest =>
      obtain ⟨rfl, c, H2, hcn, rfl⟩ := hcut
      clear hv
      go_upto_region 20 with fail
      go_cut [90] from 7 (fun t wx => wx = wc ∧ ∃ v : Bool, t = .bool v ∧ (v = true → ∃ h : c < s.size, (s[c].toNat : Int) = 101 ∨ (s[c].toNat : Int) = 69))
      case first =>
        by_cases hc : c < s.size
        · by_cases h101 : (s[c].toNat : Int) = 101
          · have hb : ((s[c].toNat : Int) == 101) = true := by simp [h101]
            have H101 : Hid ((s[c].toNat : Int) = 101) := h101
            clear h101
            go_wp2
            go_meet
            exact ⟨rfl, _, rfl, fun _ => ⟨hc, Or.inl H101.out⟩⟩
          · have hb : ((s[c].toNat : Int) == 101) = false := by simp [h101]
            clear h101
            go_wp2
            go_meet
            exact ⟨rfl, _, rfl, fun h => ⟨hc, Or.inr (by simpa using h)⟩⟩
        · go_wp2
          go_meet
          exact ⟨rfl, _, rfl, fun h => by cases h⟩
      case rest =>
      obtain ⟨rfl, v2, rfl, hv2⟩ := hcut
      cases v2 with
      | false =>
        clear hv2
        go_wp2
        go_ret
        refine ⟨⟨_, rfl, fun h => ⟨a, b, c, H2.out, Or.inl ?_⟩⟩, rfl⟩
        have h' : (c : Int) = (s.size : Int) := by simpa using h
        rw [hl.out]
        omega
      | true =>
      obtain ⟨hc, hce⟩ := hv2 rfl
      have HC : Hid ((s[c].toNat : Int) = 101 ∨ (s[c].toNat : Int) = 69) := hce
      clear hv2 hce
      go_upto_region 22 with fail
      go_cut [107] from 7 (fun t wx => wx = wc ∧ ∃ v : Bool, t = .bool v ∧ (v = true → ∃ h : c + 1 < s.size, (s[c + 1].toNat : Int) = 43 ∨ (s[c + 1].toNat : Int) = 45))
      case first =>
        by_cases hc1 : c + 1 < s.size
        · by_cases h43 : (s[c + 1].toNat : Int) = 43
          · have hb : ((s[c + 1].toNat : Int) == 43) = true := by simp [h43]
            have H43 : Hid ((s[c + 1].toNat : Int) = 43) := h43
            clear h43
            go_wp2
            go_meet
            exact ⟨rfl, _, rfl, fun _ => ⟨hc1, Or.inl H43.out⟩⟩
          · have hb : ((s[c + 1].toNat : Int) == 43) = false := by simp [h43]
            clear h43
            go_wp2
            go_meet
            exact ⟨rfl, _, rfl, fun h => ⟨hc1, Or.inr (by simpa using h)⟩⟩
        · go_wp2
          go_meet
          exact ⟨rfl, _, rfl, fun h => by cases h⟩
      case rest =>
      obtain ⟨rfl, v3, rfl, hv3⟩ := hcut
      go_upto_if 107 with fail
      go_cut [4] from 7 (fun i wx => wx = wc ∧ ∃ d : Nat, Hid (d = c + 1 ∨ (d = c + 2 ∧ (s.data.toList[c + 1]? = some 43 ∨ s.data.toList[c + 1]? = some 45))) ∧ c < d ∧ d ≤ s.size ∧ i = .int .i64 d)
      case first =>
        cases v3 with
        | false =>
          go_wp2
          go_meet
          exact ⟨rfl, c + 1, Or.inl rfl, by omega, by omega, by go_num⟩
        | true =>
          obtain ⟨hc1, hcs⟩ := hv3 rfl
          have HS : Hid ((s[c + 1].toNat : Int) = 43 ∨ (s[c + 1].toNat : Int) = 45) := hcs
          clear hv3 hcs
          go_wp2
          go_meet
          refine ⟨rfl, c + 2, Or.inr ⟨rfl, ?_⟩, by omega, by omega, by go_num⟩
          rw [HA.out (c + 1) hc1]
          exact HS.out.elim (fun h => Or.inl (by rw [Pl.byte_of (n := 43) (by omega) h]; rfl)) (fun h => Or.inr (by rw [Pl.byte_of (n := 45) (by omega) h]; rfl))
      case rest =>
      obtain ⟨rfl, d, HD, hcd, hdn, rfl⟩ := hcut
      clear hv3
      go_wp2
      go_loopg [4] (s.size - d) (fun g i wy => wy = wc ∧ ∃ k : Nat, d ≤ k ∧ k + g = s.size ∧ Pl.DgR s.data.toList d k ∧ i = .int .i64 k)
      case atStart => exact ⟨rfl, d, by omega, by omega, Pl.DgR.zero _ _, rfl⟩
      case round =>
        obtain ⟨rfl, k, hk1, hk2, hd, rfl⟩ := hrel
        have HK : Hid (k + gk = s.size) := hk2
        have hk3 : k ≤ s.size := by omega
        clear hk2
        by_cases hdg : ∃ h : k < s.size, 48 ≤ (s[k].toNat : Int) ∧ (s[k].toNat : Int) ≤ 57
        · obtain ⟨hkn, hdg⟩ := hdg
          go_wp2_with (go_at_call 8; refine (isDigit_yes _ _ hdg.1 hdg.2).mono ?_; rintro e w' ⟨rfl, rfl⟩)
          go_roundg (gk - 1)
          case rel => exact ⟨rfl, k + 1, by omega, by have := HK.out; omega, hd.succ (HA.out k hkn) ⟨by omega, by omega⟩, by go_num⟩
          case measure => have := HK.out; omega
        · by_cases hbk : k = d
          · subst hbk
            by_cases hkn : k < s.size
            · have hdg' : ¬ (48 ≤ (s[k].toNat : Int) ∧ (s[k].toNat : Int) ≤ 57) := fun h => hdg ⟨hkn, h⟩
              go_wp2_with (go_at_call 8; refine (isDigit_no _ _ hdg').mono ?_; rintro e w' ⟨rfl, rfl⟩)
              go_ret
              exact ⟨JsonEnd.no _, rfl⟩
            · go_wp2
              go_ret
              exact ⟨JsonEnd.no _, rfl⟩
          · have hne : ((k : Int) == (d : Int)) = false := beq_eq_false_iff_ne.2 (by omega)
            have hbk' : d < k := by omega
            clear hbk
            have fin : k = s.size → Pl.P3 s.data.toList := fun hk => by
              refine ⟨a, b, c, H2.out, Or.inr ⟨d, ?_, HD.out, by rw [hl.out]; omega, by rw [hl.out, ← hk]; exact hd⟩⟩
              rw [HA.out c hc]
              exact HC.out.elim (fun h => Or.inl (by rw [Pl.byte_of (n := 101) (by omega) h]; rfl)) (fun h => Or.inr (by rw [Pl.byte_of (n := 69) (by omega) h]; rfl))
            have FIN : Hid (k = s.size → Pl.P3 s.data.toList) := fin
            clear fin
            by_cases hkn : k < s.size
            · have hdg' : ¬ (48 ≤ (s[k].toNat : Int) ∧ (s[k].toNat : Int) ≤ 57) := fun h => hdg ⟨hkn, h⟩
              go_wp2_with (go_at_call 8; refine (isDigit_no _ _ hdg').mono ?_; rintro e w' ⟨rfl, rfl⟩)
              go_ret
              exact ⟨⟨_, rfl, fun h => FIN.out (nat_of_beq h)⟩, rfl⟩
            · go_wp2
              go_ret
              exact ⟨⟨_, rfl, fun h => FIN.out (nat_of_beq h)⟩, rfl⟩
end Go.Proofs.Qxb6604296aDoor
