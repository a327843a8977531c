/-
  seat b6604296aD: what a JSON number looks like, by places in its bytes. No Go in sight.
-/
import GoSem.Claim
namespace Go.Proofs.Qxb6604296aDoor.Pl

/-- A decimal digit. -/
def Dg (x : UInt8) : Prop := 48 ≤ x.toNat ∧ x.toNat ≤ 57
/-- From place a up to place b: digits alone. -/
def DgR (l : List UInt8) (a b : Nat) : Prop := ∀ (j : Nat) x, a ≤ j → j < b → l[j]? = some x → Dg x
theorem DgR.zero (l : List UInt8) (a : Nat) : DgR l a a := fun j x h1 h2 _ => by omega
theorem DgR.succ {l : List UInt8} {a k : Nat} {x : UInt8} (h : DgR l a k) (hx : l[k]? = some x) (hd : Dg x) : DgR l a (k + 1) := fun j y h1 h2 hy => by
  by_cases e : j = k
  · subst e; rw [hx] at hy; cases hy; exact hd
  · exact h j y h1 (by omega) hy

def Sg (l : List UInt8) (a : Nat) : Prop := (a = 0 ∧ l[0]? ≠ some 45) ∨ (a = 1 ∧ l[0]? = some 45)
structure P1 (l : List UInt8) (a b : Nat) : Prop where
  sg : Sg l a
  lt : a < b
  le : b ≤ l.length
  dg : DgR l a b
structure P2 (l : List UInt8) (a b c : Nat) : Prop where
  p1 : P1 l a b
  bc : b ≤ c
  le : c ≤ l.length
  fr : c = b ∨ (l[b]? = some 46 ∧ b + 1 < c ∧ DgR l (b + 1) c)
/-- A JSON number. -/
def P3 (l : List UInt8) : Prop := ∃ a b c, P2 l a b c ∧ (c = l.length ∨ ∃ d, (l[c]? = some 101 ∨ l[c]? = some 69) ∧ (d = c + 1 ∨ (d = c + 2 ∧ (l[c + 1]? = some 43 ∨ l[c + 1]? = some 45))) ∧ d < l.length ∧ DgR l d l.length)

theorem at_ (s : ByteArray) (i : Nat) (h : i < s.size) : s.data.toList[i]? = some s[i] := by
  have h' : i < s.data.toList.length := by simpa using h
  rw [List.getElem?_eq_getElem h']
  rfl
theorem len_ (s : ByteArray) : s.data.toList.length = s.size := by simp
theorem byte_of {x : UInt8} {n : Nat} (hn : n < 256) (h : (x.toNat : Int) = n) : x = UInt8.ofNat n := by
  apply UInt8.toNat_inj.1
  rw [UInt8.toNat_ofNat_of_lt' (by omega)]
  omega

/-! ### the mantissa's digits, by places -/
/-- The bytes from place a up to place k, the point left out. -/
def dig (l : List UInt8) (a k : Nat) : List UInt8 := ((l.drop a).take (k - a)).filter (fun x => x != 46)
theorem dig_zero (l : List UInt8) (a : Nat) : dig l a a = [] := by simp [dig]
theorem dig_succ {l : List UInt8} {a k : Nat} {x : UInt8} (h : a ≤ k) (hx : l[k]? = some x) : dig l a (k + 1) = dig l a k ++ (if x = 46 then [] else [x]) := by
  unfold dig
  have e : k + 1 - a = (k - a) + 1 := by omega
  have hx' : (l.drop a)[k - a]? = some x := by rw [List.getElem?_drop, show a + (k - a) = k by omega]; exact hx
  rw [e, List.take_add_one, hx', List.filter_append]
  by_cases hc : x = 46 <;> simp [hc]
theorem dig_len (l : List UInt8) (a k : Nat) : (dig l a k).length ≤ k - a := by
  unfold dig
  refine Nat.le_trans (List.length_filter_le _ _) ?_
  rw [List.length_take]
  omega
/-- zeros ahead, significant digits, zeros held back -/
def stp (t : Nat × List UInt8 × Nat) (c : UInt8) : Nat × List UInt8 × Nat :=
  if c = 48 then (if t.2.1 = [] then (t.1 + 1, t.2.1, t.2.2) else (t.1, t.2.1, t.2.2 + 1)) else (t.1, t.2.1 ++ List.replicate t.2.2 48 ++ [c], 0)
/-- What the one pass has gathered at place k. -/
def st (l : List UInt8) (a k : Nat) : Nat × List UInt8 × Nat := (dig l a k).foldl stp (0, [], 0)
theorem st_zero (l : List UInt8) (a : Nat) : st l a a = (0, [], 0) := by unfold st; rw [dig_zero]; rfl
theorem st_dot {l : List UInt8} {a k : Nat} (h : a ≤ k) (hx : l[k]? = some 46) : st l a (k + 1) = st l a k := by
  unfold st; rw [dig_succ h hx]; simp
theorem st_dig {l : List UInt8} {a k : Nat} {x : UInt8} (h : a ≤ k) (hx : l[k]? = some x) (hne : x ≠ 46) : st l a (k + 1) = stp (st l a k) x := by
  unfold st; rw [dig_succ h hx, if_neg hne, List.foldl_append]; rfl
theorem st_ahead {l : List UInt8} {a k : Nat} (h : a ≤ k) (hx : l[k]? = some 48) (hs : (st l a k).2.1 = []) : st l a (k + 1) = ((st l a k).1 + 1, (st l a k).2.1, (st l a k).2.2) := by
  rw [st_dig h hx (by decide)]; unfold stp; rw [if_pos rfl, if_pos hs]
theorem st_held {l : List UInt8} {a k : Nat} (h : a ≤ k) (hx : l[k]? = some 48) (hs : (st l a k).2.1 ≠ []) : st l a (k + 1) = ((st l a k).1, (st l a k).2.1, (st l a k).2.2 + 1) := by
  rw [st_dig h hx (by decide)]; unfold stp; rw [if_pos rfl, if_neg hs]
theorem st_new {l : List UInt8} {a k : Nat} {x : UInt8} (h : a ≤ k) (hx : l[k]? = some x) (hne : x ≠ 46) (hz : x ≠ 48) : st l a (k + 1) = ((st l a k).1, (st l a k).2.1 ++ List.replicate (st l a k).2.2 48 ++ [x], 0) := by
  rw [st_dig h hx hne]; unfold stp; rw [if_neg hz]
theorem stp_len (t : Nat × List UInt8 × Nat) (c : UInt8) (n : Nat) (h : t.1 + t.2.1.length + t.2.2 ≤ n) : (stp t c).1 + (stp t c).2.1.length + (stp t c).2.2 ≤ n + 1 := by
  unfold stp
  split
  · split <;> simp <;> omega
  · simp; omega
theorem fold_len : ∀ (D : List UInt8) (t : Nat × List UInt8 × Nat) (n : Nat), t.1 + t.2.1.length + t.2.2 ≤ n → (D.foldl stp t).1 + (D.foldl stp t).2.1.length + (D.foldl stp t).2.2 ≤ n + D.length
  | [], _, _, h => h
  | c :: r, t, n, h => by
    have := fold_len r (stp t c) (n + 1) (stp_len t c n h)
    simp only [List.foldl_cons, List.length_cons]
    omega
theorem st_len (l : List UInt8) (a k : Nat) : (st l a k).1 + (st l a k).2.1.length + (st l a k).2.2 ≤ k - a := by
  have := fold_len (dig l a k) (0, [], 0) 0 (by simp)
  have h2 := dig_len l a k
  unfold st
  omega

/-! ### the exponent, read with saturation -/
abbrev big : Nat := 4611686018427387904
def sat (e : Nat) (c : UInt8) : Nat := if 461168601842738790 < e then big + 1 else if big < e * 10 + (c.toNat - 48) then big + 1 else e * 10 + (c.toNat - 48)
theorem sat_le (e : Nat) (c : UInt8) : sat e c ≤ big + 1 := by
  unfold sat
  split
  · omega
  · split <;> omega
/-- What has been read at place k. -/
def se (l : List UInt8) (d k : Nat) : Nat := ((l.drop d).take (k - d)).foldl sat 0
theorem se_zero (l : List UInt8) (d : Nat) : se l d d = 0 := by simp [se]
theorem se_succ {l : List UInt8} {d k : Nat} {x : UInt8} (h : d ≤ k) (hx : l[k]? = some x) : se l d (k + 1) = sat (se l d k) x := by
  unfold se
  have e : k + 1 - d = (k - d) + 1 := by omega
  have hx' : (l.drop d)[k - d]? = some x := by rw [List.getElem?_drop, show d + (k - d) = k by omega]; exact hx
  rw [e, List.take_add_one, hx', List.foldl_append]
  rfl
theorem foldl_sat_le : ∀ (l : List UInt8) (e : Nat), e ≤ big + 1 → l.foldl sat e ≤ big + 1
  | [], _, h => h
  | c :: r, e, _ => foldl_sat_le r _ (sat_le e c)
theorem se_le (l : List UInt8) (d k : Nat) : se l d k ≤ 4611686018427387905 := foldl_sat_le _ _ (by omega)

/-- The exponent's part: its digits begin at d; 'm': a minus sign ahead of them. -/
structure Ex (l : List UInt8) (c d : Nat) (m : Bool) : Prop where
  mark : l[c]? = some 101 ∨ l[c]? = some 69
  sign : (m = false ∧ d = c + 1) ∨ (m = false ∧ d = c + 2 ∧ l[c + 1]? = some 43) ∨ (m = true ∧ d = c + 2 ∧ l[c + 1]? = some 45)
  lt : d < l.length
  dg : DgR l d l.length
theorem P3.cases {l : List UInt8} (h : P3 l) : ∃ a b c, P2 l a b c ∧ (c = l.length ∨ ∃ d m, Ex l c d m) := by
  obtain ⟨a, b, c, h2, h⟩ := h
  refine ⟨a, b, c, h2, ?_⟩
  rcases h with h | ⟨d, h1, h3, h4, h5⟩
  · exact Or.inl h
  · rcases h3 with h3 | ⟨h3, h6 | h6⟩
    · exact Or.inr ⟨d, false, h1, Or.inl ⟨rfl, h3⟩, h4, h5⟩
    · exact Or.inr ⟨d, false, h1, Or.inr (Or.inl ⟨rfl, h3, h6⟩), h4, h5⟩
    · exact Or.inr ⟨d, true, h1, Or.inr (Or.inr ⟨rfl, h3, h6⟩), h4, h5⟩
end Go.Proofs.Qxb6604296aDoor.Pl
