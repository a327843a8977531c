/-
  THE PLAIN LAW of seat b6604296aD: no Go in sight. Lists of bytes and numbers: what the one-pass model and parseDecimal both come to.
-/
import Derived.Test.Qxb6604296aDoorShape
import Derived.Lib.ParseIntBTie
import Derived.Lib.IndexBytes
import Derived.Lib.IndexAny
import Derived.Lib.SlTrimSet
namespace Go.Proofs.Qxb6604296aDoor.Pl
open Go Go.Lib

/-- Digits alone. -/
def Ds (l : List UInt8) : Prop := ∀ x ∈ l, Dg x
/-- The number that digits spell behind 'acc'. -/
def valA (acc : Nat) (l : List UInt8) : Nat := l.foldl (fun a c => a * 10 + (c.toNat - 48)) acc

theorem Ds.nil : Ds [] := fun _ h => by cases h
theorem Ds.cons {x : UInt8} {l : List UInt8} (h : Ds (x :: l)) : Dg x ∧ Ds l := ⟨h x (.head _), fun y hy => h y (.tail _ hy)⟩
theorem Ds.append {a b : List UInt8} (ha : Ds a) (hb : Ds b) : Ds (a ++ b) := fun x hx => (List.mem_append.1 hx).elim (ha x) (hb x)

theorem valA_ge : ∀ (l : List UInt8) (acc : Nat), acc ≤ valA acc l
  | [], _ => Nat.le_refl _
  | c :: r, acc => by
    have := valA_ge r (acc * 10 + (c.toNat - 48))
    show acc ≤ valA (acc * 10 + (c.toNat - 48)) r
    omega

theorem parseUintM_digits (M : Nat) (hM : M = 18446744073709551615) : ∀ (l : List UInt8) (acc : Nat), Ds l → acc ≤ M → parseUintM M acc l = if valA acc l ≤ M then .ok (valA acc l) else .range
  | [], acc, _, ha => by
    show NumEnd.ok acc = if acc ≤ M then .ok acc else .range
    rw [if_pos ha]
  | c :: r, acc, h, ha => by
    have hc := h.cons.1
    have ih := parseUintM_digits M hM r (acc * 10 + (c.toNat - 48)) h.cons.2
    have hg := valA_ge r (acc * 10 + (c.toNat - 48))
    have e : valA acc (c :: r) = valA (acc * 10 + (c.toNat - 48)) r := rfl
    rw [e, parseUintM, if_pos (show 48 ≤ c.toNat ∧ c.toNat ≤ 57 from hc)]
    by_cases h1 : 1844674407370955162 ≤ acc
    · rw [if_pos h1, if_neg (by omega)]
    · rw [if_neg h1]
      by_cases h2 : M < acc * 10 + (c.toNat - 48)
      · rw [if_pos h2, if_neg (by omega)]
      · rw [if_neg h2]
        exact ih (by omega)

/-- ParseInt at bare digits. -/
theorem parseInt_digits (c : UInt8) (r : List UInt8) (h : Ds (c :: r)) : parseIntB 64 (c :: r) = if valA 0 (c :: r) < 9223372036854775808 then .ok (valA 0 (c :: r) : Int) else .range := by
  have hc := h.cons.1
  have hc' : 48 ≤ c.toNat := hc.1
  have e : parseUintB 64 (c :: r) = if valA 0 (c :: r) ≤ 18446744073709551615 then .ok (valA 0 (c :: r)) else .range := by
    rw [parseUintB, if_neg (by simp)]
    exact parseUintM_digits _ (by decide) _ 0 h (by omega)
  rw [parseIntB_plain 64 c r (by omega) (by omega), e]
  generalize valA 0 (c :: r) = v
  by_cases h1 : v ≤ 18446744073709551615
  · rw [if_pos h1]
    by_cases h2 : v < 9223372036854775808
    · simp only [signlessC, show ¬ (2 ^ (64 - 1) ≤ v) by omega, if_false, h2, if_true]
    · simp only [signlessC, show (2 ^ (64 - 1) ≤ v) by omega, if_true, h2, if_false]
  · rw [if_neg h1, if_neg (by omega)]
    rfl

/-- ParseInt at a minus sign and digits. -/
theorem parseInt_minus (c : UInt8) (r : List UInt8) (h : Ds (c :: r)) : parseIntB 64 (45 :: c :: r) = if valA 0 (c :: r) ≤ 9223372036854775808 then .ok (-(valA 0 (c :: r) : Int)) else .range := by
  have e : parseUintB 64 (c :: r) = if valA 0 (c :: r) ≤ 18446744073709551615 then .ok (valA 0 (c :: r)) else .range := by
    rw [parseUintB, if_neg (by simp)]
    exact parseUintM_digits _ (by decide) _ 0 h (by omega)
  rw [parseIntB_minus, e]
  generalize valA 0 (c :: r) = v
  by_cases h1 : v ≤ 18446744073709551615
  · rw [if_pos h1]
    by_cases h2 : v ≤ 9223372036854775808
    · simp only [signedC, show ¬ (2 ^ (64 - 1) < v) by omega, if_false, h2, if_true]
    · simp only [signedC, show (2 ^ (64 - 1) < v) by omega, if_true, h2, if_false]
  · rw [if_neg h1, if_neg (by omega)]
    rfl

/-! ### the saturating reading of the exponent -/
theorem sat_min (e : Nat) (c : UInt8) (h : Dg c) : sat (min e (big + 1)) c = min (e * 10 + (c.toNat - 48)) (big + 1) := by
  unfold Dg at h
  unfold sat
  simp only [big]
  split
  · omega
  · split <;> omega
theorem sat_fold : ∀ (l : List UInt8) (acc : Nat), Ds l → l.foldl sat (min acc (big + 1)) = min (valA acc l) (big + 1)
  | [], _, _ => rfl
  | c :: r, acc, h => by
    have := sat_fold r (acc * 10 + (c.toNat - 48)) h.cons.2
    rw [List.foldl_cons, sat_min _ _ h.cons.1, this]
    rfl
theorem sat_fold0 (l : List UInt8) (h : Ds l) : l.foldl sat 0 = min (valA 0 l) (big + 1) := by
  have := sat_fold l 0 h
  simpa using this
/-! ### the mantissa in one pass -/
theorem snoc_ind {α : Type} {P : List α → Prop} (h0 : P []) (hs : ∀ l a, P l → P (l ++ [a])) (l : List α) : P l := by
  have : ∀ r : List α, P r.reverse := fun r => by
    induction r with
    | nil => exact h0
    | cons a r ih => rw [List.reverse_cons]; exact hs _ _ ih
  simpa using this l.reverse

theorem trimLeft_snoc (D : List UInt8) (c : UInt8) : trimLeftB (D ++ [c]) 48 = if trimLeftB D 48 = [] then (if c = 48 then [] else [c]) else trimLeftB D 48 ++ [c] := by
  unfold trimLeftB
  induction D with
  | nil => by_cases h : c = 48 <;> simp [List.dropWhile, h]
  | cons x r ih =>
    by_cases h : x = 48
    · simpa [List.dropWhile_cons, h] using ih
    · simp [h]

structure Inv (D : List UInt8) (t : Nat × List UInt8 × Nat) : Prop where
  left : trimLeftB D 48 = t.2.1 ++ List.replicate t.2.2 48
  len : D.length = t.1 + (t.2.1.length + t.2.2)
  none : t.2.1 = [] → t.2.2 = 0
  last : t.2.1 ≠ [] → t.2.1.getLast? ≠ some 48

theorem inv_fold (D : List UInt8) : Inv D (D.foldl stp (0, [], 0)) := by
  refine snoc_ind (P := fun D => Inv D (D.foldl stp (0, [], 0))) ⟨rfl, rfl, fun _ => rfl, fun h => absurd rfl h⟩ (fun D c ih => ?_) D
  rw [List.foldl_append, List.foldl_cons, List.foldl_nil]
  generalize D.foldl stp (0, [], 0) = t at ih
  obtain ⟨ld, sg, pd⟩ := t
  have h1 : trimLeftB D 48 = sg ++ List.replicate pd 48 := ih.left
  have h2 : D.length = ld + (sg.length + pd) := ih.len
  have h3 : sg = [] → pd = 0 := ih.none
  have h4 : sg ≠ [] → sg.getLast? ≠ some 48 := ih.last
  have ht := trimLeft_snoc D c
  unfold stp
  by_cases hc : c = 48
  · by_cases hs : sg = []
    · have hp := h3 hs
      subst hs hp
      simp only [hc, if_true]
      rw [h1, hc] at ht
      refine ⟨by rw [ht]; simp, by simp; simp at h2; omega, fun _ => rfl, fun h => absurd rfl h⟩
    · simp only [hc, if_true, hs, if_false]
      rw [h1, hc, if_neg (by simp [hs])] at ht
      refine ⟨?_, by simp; omega, fun h => absurd h hs, h4⟩
      rw [ht, List.append_assoc, List.replicate_succ']
  · simp only [hc, if_false]
    rw [h1] at ht
    refine ⟨?_, by simp; omega, fun _ => rfl, fun _ => by simpa using hc⟩
    rw [ht]
    by_cases hs : sg = []
    · have hp := h3 hs
      subst hs hp
      simp [hc]
    · rw [if_neg (by simp [hs])]
      simp

theorem dropWhile_rep (n : Nat) (r : List UInt8) : (List.replicate n 48 ++ r).dropWhile (· == 48) = r.dropWhile (· == (48 : UInt8)) := by
  induction n with
  | zero => simp
  | succ n ih => rw [List.replicate_succ, List.cons_append, List.dropWhile_cons]; simp [ih]

theorem trimRight_of {sg : List UInt8} {pd : Nat} (hn : sg = [] → pd = 0) (hl : sg ≠ [] → sg.getLast? ≠ some 48) : trimRightB (sg ++ List.replicate pd 48) 48 = sg := by
  unfold trimRightB
  rw [List.reverse_append, List.reverse_replicate, dropWhile_rep]
  by_cases hs : sg = []
  · subst hs; rfl
  · have h := hl hs
    rw [← List.head?_reverse] at h
    have hne : sg.reverse ≠ [] := by simpa using hs
    cases hr : sg.reverse with
    | nil => exact absurd hr hne
    | cons x r =>
      rw [hr] at h
      have hx : ¬ x = 48 := by simpa using h
      rw [List.dropWhile_cons]
      simp only [beq_iff_eq, hx, if_false]
      rw [← hr, List.reverse_reverse]

/-- What the one pass gathers: the digits between the zeros; how many zeros ahead. -/
theorem pass (D : List UInt8) : (D.foldl stp (0, [], 0)).2.1 = trimRightB (trimLeftB D 48) 48 ∧ (D.foldl stp (0, [], 0)).1 + (trimLeftB D 48).length = D.length := by
  have i := inv_fold D
  generalize D.foldl stp (0, [], 0) = t at i
  refine ⟨?_, ?_⟩
  · rw [i.left, trimRight_of i.none i.last]
  · rw [i.left, i.len]; simp


/-! ### what parseDecimal's cuts are, by places -/
theorem st_pass (l : List UInt8) (a c : Nat) : (st l a c).2.1 = trimRightB (trimLeftB (dig l a c) 48) 48 ∧ (st l a c).1 + (trimLeftB (dig l a c) 48).length = (dig l a c).length := pass _

theorem DgR.mem {l : List UInt8} {a b : Nat} (h : DgR l a b) : Ds ((l.drop a).take (b - a)) := fun x hx => by
  obtain ⟨i, hi, e⟩ := List.mem_iff_getElem.1 hx
  rw [List.length_take, List.length_drop] at hi
  refine h (a + i) x (by omega) (by omega) ?_
  rw [← e, List.getElem_take, List.getElem_drop]
  exact List.getElem?_eq_getElem (by omega)

theorem Ds.no46 {l : List UInt8} (h : Ds l) : l.filter (fun x => x != 46) = l := List.filter_eq_self.2 fun x hx => by
  have := (h x hx).1
  simp only [bne_iff_ne, ne_eq]
  intro e
  rw [e] at this
  exact absurd this (by decide)

/-- The digits of the mantissa: those before the point, those behind it. -/
theorem dig_whole {l : List UInt8} {a b c : Nat} (h : P2 l a b c) (e : c = b) : dig l a c = (l.drop a).take (b - a) := by
  subst e
  unfold dig
  exact (DgR.mem h.p1.dg).no46
theorem dig_parts {l : List UInt8} {a b c : Nat} (h : P2 l a b c) (e : c ≠ b) : dig l a c = (l.drop a).take (b - a) ++ (l.drop (b + 1)).take (c - (b + 1)) := by
  rcases h.fr with e' | ⟨e1, e2, e3⟩
  · exact absurd e' e
  have hab := h.p1.lt
  unfold dig
  have s1 : (l.drop a).take (c - a) = (l.drop a).take (b - a) ++ (46 :: (l.drop (b + 1)).take (c - (b + 1))) := by
    have e4 : c - a = (b - a) + (c - b) := by omega
    have hb : l.drop b = 46 :: l.drop (b + 1) := by
      have hlt : b < l.length := by have := h.le; omega
      rw [List.drop_eq_getElem_cons hlt]
      rw [List.getElem?_eq_getElem hlt] at e1
      injection e1 with e1
      rw [e1]
    rw [e4, List.take_add, List.drop_drop, show a + (b - a) = b by omega, hb, show c - b = (c - (b + 1)) + 1 by omega, List.take_succ_cons]
  rw [s1, List.filter_append, (DgR.mem h.p1.dg).no46]
  congr 1
  rw [List.filter_cons]
  simp [(DgR.mem e3).no46]

theorem P2.ascii {l : List UInt8} {a b c : Nat} (h : P2 l a b c) (hx : (c = l.length) ∨ ∃ d m, Ex l c d m) : ∀ (j : Nat) x, a ≤ j → l[j]? = some x → x.toNat < 128 := fun j x h1 h2 => by
  have hlt : j < l.length := (List.getElem?_eq_some_iff.1 h2).1
  have dg : Dg x → x.toNat < 128 := fun h => by have := h.2; omega
  by_cases hb : j < b
  · exact dg (h.p1.dg j x h1 hb h2)
  by_cases hc : j < c
  · rcases h.fr with e | ⟨e1, e2, e3⟩
    · omega
    · by_cases e : j = b
      · subst e; rw [e1] at h2; cases h2; decide
      · exact dg (e3 j x (by omega) hc h2)
  rcases hx with e | ⟨d, m, ex⟩
  · omega
  · by_cases hd : d ≤ j
    · exact dg (ex.dg j x hd hlt h2)
    · by_cases e : j = c
      · subst e
        rcases ex.mark with h | h <;> (rw [h] at h2; cases h2; decide)
      · rcases ex.sign with ⟨_, e2⟩ | ⟨_, e2, e3⟩ | ⟨_, e2, e3⟩
        · omega
        · have : j = c + 1 := by omega
          subst this; rw [e3] at h2; cases h2; decide
        · have : j = c + 1 := by omega
          subst this; rw [e3] at h2; cases h2; decide

/-- In the mantissa there is no 'e'. -/
theorem P2.noE {l : List UInt8} {a b c : Nat} (h : P2 l a b c) {j : Nat} {x : UInt8} (h1 : a ≤ j) (h2 : j < c) (h3 : l[j]? = some x) : x ≠ 101 ∧ x ≠ 69 := by
  have dg : Dg x → x ≠ 101 ∧ x ≠ 69 := fun h => ⟨fun e => by rw [e] at h; exact absurd h.2 (by decide), fun e => by rw [e] at h; exact absurd h.2 (by decide)⟩
  by_cases hb : j < b
  · exact dg (h.p1.dg j x h1 hb h3)
  rcases h.fr with e | ⟨e1, e2, e3⟩
  · omega
  · by_cases e : j = b
    · subst e; rw [e1] at h3; cases h3; decide
    · exact dg (e3 j x (by omega) h2 h3)

theorem index_none {l : List UInt8} {a b : Nat} (h : P2 l a b l.length) : indexAny (l.drop a) [101, 69] = -1 := by
  refine indexAny_none fun j x hj hx => ?_
  rw [List.getElem?_drop] at hx
  have hlt := (List.getElem?_eq_some_iff.1 hx).1
  have := h.noE (j := a + j) (by omega) hlt hx
  simp [this.1, this.2]
theorem index_some {l : List UInt8} {a b c d : Nat} {m : Bool} (h : P2 l a b c) (hx : Ex l c d m) : indexAny (l.drop a) [101, 69] = ((c - a : Nat) : Int) := by
  have hac : a ≤ c := by have := h.p1.lt; have := h.bc; omega
  have e : ∃ x, l[c]? = some x ∧ [101, 69].contains x = true := by
    rcases hx.mark with h | h
    · exact ⟨_, h, by decide⟩
    · exact ⟨_, h, by decide⟩
  obtain ⟨x, e1, e2⟩ := e
  refine indexAny_hit (x := x) (fun j y hj hy => ?_) (by rw [List.getElem?_drop, show a + (c - a) = c by omega]; exact e1) e2
  rw [List.getElem?_drop] at hy
  have := h.noE (j := a + j) (by omega) (by omega) hy
  simp [this.1, this.2]

theorem indexByte_hit (c : UInt8) : ∀ (l r : List UInt8), (∀ x ∈ l, x ≠ c) → indexByte (l ++ c :: r) c = l.length
  | [], r, _ => by simp [indexByte]
  | x :: l, r, h => by
    have ih := indexByte_hit c l r fun y hy => h y (.tail _ hy)
    have hx := h x (.head _)
    rw [List.cons_append, indexByte, if_neg (by simpa using hx), ih, if_neg (by simp)]
    simp
theorem indexByte_miss (c : UInt8) : ∀ (l : List UInt8), (∀ x ∈ l, x ≠ c) → indexByte l c = -1
  | [], _ => rfl
  | x :: l, h => by
    have ih := indexByte_miss c l fun y hy => h y (.tail _ hy)
    have hx := h x (.head _)
    rw [indexByte, if_neg (by simpa using hx), ih]
    rfl
theorem Ds.ne46 {l : List UInt8} (h : Ds l) : ∀ x ∈ l, x ≠ 46 := fun x hx e => by
  have := (h x hx).1
  rw [e] at this
  exact absurd this (by decide)
theorem point_none {l : List UInt8} {a b c : Nat} (h : P2 l a b c) (e : c = b) : indexByte ((l.drop a).take (c - a)) 46 = -1 := by
  subst e
  exact indexByte_miss 46 _ (DgR.mem h.p1.dg).ne46
theorem point_some {l : List UInt8} {a b c : Nat} (h : P2 l a b c) (e : c ≠ b) : indexByte ((l.drop a).take (c - a)) 46 = ((b - a : Nat) : Int) := by
  rcases h.fr with e' | ⟨e1, e2, e3⟩
  · exact absurd e' e
  have hab := h.p1.lt
  have s1 : (l.drop a).take (c - a) = (l.drop a).take (b - a) ++ (46 :: (l.drop (b + 1)).take (c - (b + 1))) := by
    have e4 : c - a = (b - a) + (c - b) := by omega
    have hb : l.drop b = 46 :: l.drop (b + 1) := by
      have hlt : b < l.length := by have := h.le; omega
      rw [List.drop_eq_getElem_cons hlt]
      rw [List.getElem?_eq_getElem hlt] at e1
      injection e1 with e1
      rw [e1]
    rw [e4, List.take_add, List.drop_drop, show a + (b - a) = b by omega, hb, show c - b = (c - (b + 1)) + 1 by omega, List.take_succ_cons]
  rw [s1, indexByte_hit 46 _ _ (DgR.mem h.p1.dg).ne46, List.length_take, List.length_drop]
  have := h.p1.le
  congr 1
  omega

/-! ### the exponent -/
theorem valA_se {l : List UInt8} {d : Nat} (h : DgR l d l.length) : se l d l.length = min (valA 0 (l.drop d)) (big + 1) := by
  unfold se
  have e : (l.drop d).take (l.length - d) = l.drop d := List.take_of_length_le (by rw [List.length_drop]; omega)
  have h' := DgR.mem h
  rw [e] at h' ⊢
  exact sat_fold0 _ h'
end Go.Proofs.Qxb6604296aDoor.Pl
