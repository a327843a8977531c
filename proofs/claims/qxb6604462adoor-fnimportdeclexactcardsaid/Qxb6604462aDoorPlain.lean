/-
  seat b6604462aD: plain: names and their numerals, lines, groups, the one sorted order. No Go in sight.
-/
import Derived.Lib.ItoaMem
import Derived.Lib.ItoaLen
import Derived.Lib.Join
import Derived.Lib.Bytealg
import Derived.Lib.SlicesS
import Derived.Sort.LotA
import Derived.Sort.Walk0
namespace Go.Proofs.Qxb6604462aDoor
open Go Go.Sort

/-- A numeral, read back. -/
def valOf (l : List UInt8) : Nat := l.foldl (fun a b => 10 * a + (b.toNat - 48)) 0

theorem valOf_dec (n : Nat) : valOf (Lib.decDigits n) = n := by
  induction n using Nat.strongRecOn with
  | ind n ih =>
    rw [Lib.decDigits]
    split
    · next h =>
      simp [valOf]
      omega
    · next h =>
      have h1 := ih (n / 10) (by omega)
      unfold valOf at h1 ⊢
      rw [List.foldl_append, h1]
      simp
      omega

theorem dec_ne (n : Nat) : Lib.decDigits n ≠ [] := by
  rw [Lib.decDigits]
  split
  · simp
  · simp

/-- The names that are tried: the base, then base2, base3 .. -/
def cnd (b : ByteArray) : Nat → ByteArray
  | 0 => b
  | k + 1 => b ++ ⟨(Lib.itoa ((k : Int) + 2)).toArray⟩

theorem cnd_data (b : ByteArray) (k : Nat) : (cnd b (k + 1)).data.toList = b.data.toList ++ Lib.decDigits (k + 2) := by
  have h : Lib.itoa ((k : Int) + 2) = Lib.decDigits (k + 2) := by
    have := Lib.itoa_nonneg (k + 2)
    simpa using this
  show (b ++ ⟨(Lib.itoa ((k : Int) + 2)).toArray⟩ : ByteArray).data.toList = _
  rw [h]
  simp

theorem cnd_inj {b : ByteArray} : ∀ {i j : Nat}, cnd b i = cnd b j → i = j
  | 0, 0, _ => rfl
  | 0, k + 1, h => by
    have h1 := congrArg (fun x => x.data.toList.length) h
    simp only [cnd_data, List.length_append] at h1
    have := List.length_pos_iff.2 (dec_ne (k + 2))
    simp only [cnd] at h1
    omega
  | k + 1, 0, h => by
    have h1 := congrArg (fun x => x.data.toList.length) h
    simp only [cnd_data, List.length_append] at h1
    have := List.length_pos_iff.2 (dec_ne (k + 2))
    simp only [cnd] at h1
    omega
  | k + 1, l + 1, h => by
    have h1 := congrArg (fun x => x.data.toList) h
    simp only [cnd_data] at h1
    have h2 := congrArg valOf (List.append_cancel_left h1)
    rw [valOf_dec, valOf_dec] at h2
    omega

theorem cnd_size (b : ByteArray) (k : Nat) (hk : k ≤ 100000) : (cnd b k).size ≤ b.size + 21 := by
  cases k with
  | zero => simp [cnd]
  | succ k =>
    have := Lib.itoa_length_le ((k : Int) + 2) (by omega) (by omega)
    simp only [cnd, ByteArray.size_append]
    have e : (⟨(Lib.itoa ((k : Int) + 2)).toArray⟩ : ByteArray).size = (Lib.itoa ((k : Int) + 2)).length := by
      show (Lib.itoa ((k : Int) + 2)).toArray.size = _
      simp
    omega

theorem pigeon {α : Type} [DecidableEq α] : ∀ (l m : List α), l.Nodup → (∀ x ∈ l, x ∈ m) → l.length ≤ m.length
  | [], m, _, _ => by simp
  | a :: l, m, hn, hs => by
    have ha := hs a (by simp)
    have h1 := pigeon l (m.erase a) (List.nodup_cons.1 hn).2 (fun x hx => by
      have hne : x ≠ a := fun e => (List.nodup_cons.1 hn).1 (e ▸ hx)
      exact (List.mem_erase_of_ne hne).2 (hs x (by simp [hx])))
    rw [List.length_erase_of_mem ha] at h1
    have : 0 < m.length := List.length_pos_of_mem ha
    simp only [List.length_cons]
    omega

theorem least {p : Nat → Prop} : ∀ n, p n → ∃ k, k ≤ n ∧ p k ∧ ∀ j, j < k → ¬ p j := by
  intro n
  induction n using Nat.strongRecOn with
  | ind n ih =>
    intro h
    by_cases hs : ∃ j, j < n ∧ p j
    · obtain ⟨j, hj, hp⟩ := hs
      obtain ⟨k, hk, h1, h2⟩ := ih j hj hp
      exact ⟨k, by omega, h1, h2⟩
    · exact ⟨n, Nat.le_refl _, h, fun j hj hp => hs ⟨j, hj, hp⟩⟩

theorem free_ex (b : ByteArray) (m : List ByteArray) : ∃ k, k ≤ m.length ∧ cnd b k ∉ m ∧ ∀ j, j < k → cnd b j ∈ m := by
  have h : ∃ k, k ≤ m.length ∧ cnd b k ∉ m := by
    apply Classical.byContradiction
    intro hc
    have hall : ∀ k, k ≤ m.length → cnd b k ∈ m := fun k hk => Classical.byContradiction fun hn => hc ⟨k, hk, hn⟩
    have hp := pigeon ((List.range (m.length + 1)).map (cnd b)) m (by
      refine List.Pairwise.map _ (fun x y hxy he => hxy (cnd_inj he)) List.nodup_range) (fun x hx => by
      obtain ⟨k, hk, rfl⟩ := List.mem_map.1 hx
      exact hall k (by have := List.mem_range.1 hk; omega))
    simp at hp
    omega
  obtain ⟨n, hn, h1⟩ := h
  obtain ⟨k, hk, h2, h3⟩ := least (p := fun k => cnd b k ∉ m) n h1
  exact ⟨k, by omega, h2, fun j hj => Classical.byContradiction (h3 j hj)⟩

/-! ### the order of the paths -/
theorem cmp_lt : ∀ (a b : List UInt8), decide (Lib.compareBytes a b < 0) = decide (a < b)
  | [], [] => by simp [Lib.compareBytes]
  | [], _ :: _ => by simp [Lib.compareBytes]
  | _ :: _, [] => by simp [Lib.compareBytes]
  | a :: la, b :: lb => by
    unfold Lib.compareBytes
    by_cases h1 : a < b
    · simp [h1, List.cons_lt_cons_iff]
    · by_cases h2 : b < a
      · have hne : a ≠ b := fun e => by subst e; exact h1 h2
        simp [h1, h2, List.cons_lt_cons_iff, hne]
      · have he : a = b := by
          apply UInt8.toNat_inj.1
          have e1 : ¬ a.toNat < b.toNat := h1
          have e2 : ¬ b.toNat < a.toNat := h2
          omega
        subst he
        rw [if_neg h1, if_neg h1, cmp_lt la lb]
        simp

/-- A line to lay: its path, its alias. -/
abbrev Ent := ByteArray × ByteArray
def bltP (x y : Ent) : Bool := decide (x.1.data.toList < y.1.data.toList)

theorem u8_swo : SWO bltP where
  irrefl x := by simp [bltP, List.lt_irrefl]
  trans x y z h1 h2 := by
    simp only [bltP, decide_eq_true_eq] at *
    exact List.lt_trans h1 h2
  ntrans x y z h1 h2 := by
    simp only [bltP, decide_eq_false_iff_not] at *
    exact fun h => by
      have a1 := List.not_lt.1 h1
      have a2 := List.not_lt.1 h2
      exact absurd h (List.not_lt.2 (List.le_trans a2 a1))

/-- One sorted order alone: two permutations of each other, both sorted, no two alike under the order. -/
theorem one_order : ∀ (l m : List Ent), l.Perm m → l.Pairwise (fun x y => bltP y x = false) → m.Pairwise (fun x y => bltP y x = false) → (∀ x ∈ l, ∀ y ∈ l, bltP x y = false → bltP y x = false → x = y) → l = m
  | [], m, hp, _, _, _ => by simpa using hp.symm
  | a :: l, [], hp, _, _, _ => by simp at hp
  | a :: l, b :: m, hp, h1, h2, hd => by
    have ha : a ∈ b :: m := hp.mem_iff.1 (by simp)
    have hb : b ∈ a :: l := hp.mem_iff.2 (by simp)
    have e : a = b := by
      rcases List.mem_cons.1 ha with h | h
      · exact h
      · rcases List.mem_cons.1 hb with h' | h'
        · exact h'.symm
        · exact hd a (by simp) b hb ((List.pairwise_cons.1 h2).1 a h) ((List.pairwise_cons.1 h1).1 b h')
    subst e
    rw [one_order l m ((List.perm_cons _).1 hp) (List.pairwise_cons.1 h1).2 (List.pairwise_cons.1 h2).2 (fun x hx y hy => hd x (by simp [hx]) y (by simp [hy]))]

/-- Sorted in the kit's sense, as a list. -/
theorem pairwise_of {α : Type} [Inhabited α] {lt : α → α → Bool} {d : Array α} (h : SortedIn lt 0 d.size d) : d.toList.Pairwise (fun x y => lt y x = false) := by
  rw [List.pairwise_iff_getElem]
  intro i j hi hj hij
  have := h i j (Nat.zero_le _) hij (by simpa using hj)
  simp at hi hj
  simpa [getElem!_pos, hi, hj] using this

/-! ### lines -/
/-- A line. -/
def lineB (e : Ent) : List UInt8 := (if e.2.data.toList = [] then [] else e.2.data.toList ++ [32]) ++ (34 :: (e.1.data.toList ++ [34]))
/-- The first element has no dot. -/
def stdB (p : List UInt8) : Bool := !((p.takeWhile (fun b => b != 47)).contains 46)
def std (e : Ent) : Bool := stdB e.1.data.toList
def tabbed (ls : List (List UInt8)) : List UInt8 := ls.flatMap (fun l => 9 :: (l ++ [10]))
def import7 : List UInt8 := [105, 109, 112, 111, 114, 116, 32]

/-- What the block reads as, from the sorted lines. -/
def declOf (d : List Ent) : List UInt8 :=
  if d.length = 0 then [] else if d.length = 1 then import7 ++ (d.map lineB).flatten ++ [10]
  else import7 ++ [40, 10] ++ tabbed ((d.filter std).map lineB) ++ (if 0 < (d.filter std).length ∧ 0 < (d.filter (fun e => !std e)).length then [10] else []) ++ tabbed ((d.filter (fun e => !std e)).map lineB) ++ [41, 10]

theorem tabbed_join : ∀ (l : List UInt8) (ls : List (List UInt8)), tabbed (l :: ls) = 9 :: (Lib.join (l :: ls) [10, 9] ++ [10])
  | l, [] => by simp [tabbed, Lib.join_one]
  | l, m :: ls => by
    have ih := tabbed_join m ls
    have h1 : tabbed (l :: m :: ls) = 9 :: (l ++ [10]) ++ tabbed (m :: ls) := by simp [tabbed]
    have h2 : Lib.join (l :: m :: ls) [10, 9] = l ++ [10, 9] ++ Lib.join (m :: ls) [10, 9] := by simp [Lib.join, List.intercalate]
    rw [h1, ih, h2]
    simp

/-- The block of two lines and more, as ImportDecl joins it. -/
theorem decl_two (A B : List (List UInt8)) (h : 0 < A.length ∨ 0 < B.length) :
    import7 ++ [40, 10, 9] ++ (Lib.join A [10, 9] ++ (if 0 < A.length ∧ 0 < B.length then [10, 10, 9] else [])) ++ Lib.join B [10, 9] ++ [10, 41, 10] =
    import7 ++ [40, 10] ++ tabbed A ++ (if 0 < A.length ∧ 0 < B.length then [10] else []) ++ tabbed B ++ [41, 10] := by
  cases A with
  | nil =>
    cases B with
    | nil => simp at h
    | cons b B =>
      rw [tabbed_join]
      simp [Lib.join_nil, tabbed]
  | cons a A =>
    cases B with
    | nil =>
      rw [tabbed_join]
      simp [Lib.join_nil, tabbed]
    | cons b B =>
      rw [tabbed_join, tabbed_join]
      simp
end Go.Proofs.Qxb6604462aDoor
