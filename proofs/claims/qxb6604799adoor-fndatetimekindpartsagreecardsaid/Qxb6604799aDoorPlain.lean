/-
  seat b6604799aD: THE PLAIN SIDE: what the readers of dates and times compute, over lists of bytes. No Go in sight.
-/
import Derived.Lib.Atoi
import Derived.Lib.AtoiBound
import Derived.Lib.SlTrimSet
import Derived.Lib.Strings
namespace Go.Proofs.Qxb6604799aDoor.Pl
open Go.Lib

/-- The ten digits, as the program writes them. -/
def ten : List UInt8 := [48, 49, 50, 51, 52, 53, 54, 55, 56, 57]
/-- How many decimal digits begin l. -/
def ld (l : List UInt8) : Nat := l.length - (trimLeftS l ten).length
def allD (l : List UInt8) : Bool := ld l == l.length
/-- The number that digits write. -/
def num (l : List UInt8) : Int := (atoi l).getD 0

theorem ten_digit {x : UInt8} (h : ten.contains x = true) : 48 ≤ x.toNat ∧ x.toNat ≤ 57 := by
  have : x ∈ ten := by simpa using h
  simp only [ten, List.mem_cons, List.mem_nil_iff, or_false] at this
  rcases this with rfl | rfl | rfl | rfl | rfl | rfl | rfl | rfl | rfl | rfl <;> decide

theorem dropWhile_len {α : Type} (p : α → Bool) : ∀ l : List α, (l.dropWhile p).length ≤ l.length
  | [] => Nat.le_refl _
  | x :: r => by
    rw [List.dropWhile_cons]
    split
    · have := dropWhile_len p r; simp; omega
    · exact Nat.le_refl _
theorem ld_le (l : List UInt8) : ld l ≤ l.length := by unfold ld; omega
theorem ld_trim (l : List UInt8) : (ld l : Int) = (l.length : Int) - ((trimLeftS l ten).length : Int) := by
  have := dropWhile_len (ten.contains ·) l
  unfold ld trimLeftS at *
  omega

/-- Digits alone, one by one. -/
theorem allD_mem : ∀ {l : List UInt8}, allD l = true → ∀ x ∈ l, ten.contains x = true
  | [], _, x, hx => by cases hx
  | y :: r, h, x, hx => by
    have h1 : ld (y :: r) = (y :: r).length := by simpa [allD] using h
    unfold ld trimLeftS at h1
    rw [List.dropWhile_cons] at h1
    by_cases hy : ten.contains y = true
    · rw [if_pos hy] at h1
      have hr : allD r = true := by
        have := dropWhile_len (ten.contains ·) r
        simp only [List.length_cons] at h1
        unfold allD ld trimLeftS
        simp only [beq_iff_eq]
        omega
      cases hx with
      | head => exact hy
      | tail _ hx => exact allD_mem hr x hx
    · rw [if_neg hy] at h1
      simp only [List.length_cons] at h1
      omega
theorem allD_of : ∀ {l : List UInt8}, (∀ x ∈ l, ten.contains x = true) → allD l = true
  | [], _ => rfl
  | y :: r, h => by
    have ih := allD_of (l := r) fun x hx => h x (.tail _ hx)
    have hy := h y (.head _)
    unfold allD ld trimLeftS at ih ⊢
    rw [List.dropWhile_cons, if_pos hy]
    have := dropWhile_len (ten.contains ·) r
    simp only [beq_iff_eq, List.length_cons] at ih ⊢
    omega
theorem allD_append {a b : List UInt8} (h : allD (a ++ b) = true) : allD a = true ∧ allD b = true :=
  ⟨allD_of fun x hx => allD_mem h x (List.mem_append_left _ hx), allD_of fun x hx => allD_mem h x (List.mem_append_right _ hx)⟩

theorem decFrom_digits : ∀ {l : List UInt8} (acc : Nat), (∀ x ∈ l, ten.contains x = true) → ∃ n, decFrom acc l = some n
  | [], acc, _ => ⟨acc, rfl⟩
  | y :: r, acc, h => by
    have hy := ten_digit (h y (.head _))
    have hd : digitVal y = some (y.toNat - 48) := by
      unfold digitVal
      rw [if_pos hy]
    obtain ⟨n, hn⟩ := decFrom_digits (acc * 10 + (y.toNat - 48)) fun x hx => h x (.tail _ hx)
    exact ⟨n, by simp [decFrom, hd, hn]⟩

/-- Digits, at least one: they write a number. -/
theorem atoi_digits {l : List UInt8} (h : allD l = true) (hne : l ≠ []) : atoi l = some (num l) ∧ 0 ≤ num l := by
  cases l with
  | nil => exact absurd rfl hne
  | cons b r =>
    have hm := allD_mem h
    have hb := ten_digit (hm b (.head _))
    have h45 : (b == 45) = false := by
      rw [beq_eq_false_iff_ne]; intro e; rw [e] at hb; exact absurd hb.1 (by decide)
    have h43 : (b == 43) = false := by
      rw [beq_eq_false_iff_ne]; intro e; rw [e] at hb; exact absurd hb.1 (by decide)
    obtain ⟨n, hn⟩ := decFrom_digits 0 hm
    have e : atoi (b :: r) = some (n : Int) := by
      rw [atoi, h45, h43]
      simp [decNat, hn]
    unfold num
    rw [e]
    exact ⟨rfl, by simp⟩

/-! ### the time of day -/
def badClock (l : List UInt8) : Bool :=
  decide (l.length < 5) || l[2]? != some 58 || !allD (l.take 2 ++ (l.drop 3).take 2) || decide (23 < num (l.take 2)) || decide (59 < num ((l.drop 3).take 2))
def badSec (r : List UInt8) : Bool := decide (r.length < 3) || !allD ((r.drop 1).take 2) || decide (59 < num ((r.drop 1).take 2))
/-- What follows the time of day that begins l: none where there is none. -/
def tod (l : List UInt8) : Option (List UInt8) :=
  if badClock l = true then none
  else if hasPrefix (l.drop 5) [58] = false then some (l.drop 5)
  else if badSec (l.drop 5) = true then none
  else if hasPrefix (l.drop 8) [46] = false then some (l.drop 8)
  else if ld (l.drop 9) = 0 then none else some ((l.drop 9).drop (ld (l.drop 9)))

/-! ### the date -/
def isDB (l : List UInt8) : Bool := l[4]? == some 45 && (l[7]? == some 45 && allD (l.take 4 ++ (l.drop 5).take 2 ++ l.drop 8))
def dIn (y m : Int) : Int := if m = 2 then (if y % 4 = 0 ∧ (¬ y % 100 = 0 ∨ y % 400 = 0) then 29 else 28) else if m = 4 ∨ m = 6 ∨ m = 9 ∨ m = 11 then 30 else 31
/-- The date's numbers are none of the calendar's. -/
def badDate (q : List UInt8) : Bool :=
  decide (num ((q.drop 5).take 2) < 1) || decide (12 < num ((q.drop 5).take 2)) || decide (num ((q.drop 8).take 2) < 1) || decide (dIn (num (q.take 4)) (num ((q.drop 5).take 2)) < num ((q.drop 8).take 2))
def Dated (l : List UInt8) : Prop := 10 ≤ l.length ∧ isDB (l.take 10) = true

/-- What kind dateTimeKind says (0 none, 5 offset date-time, 6 local date-time, 7 local date, 8 local time). -/
structure KindIs (l : List UInt8) (k : Int) : Prop where
  date : Dated l → badDate (l.take 10) = true → k = 0
  alone : Dated l → badDate (l.take 10) = false → l.length = 10 → k = 7
  joined : Dated l → badDate (l.take 10) = false → 10 < l.length → k = 0 ∨ ∃ r, tod (l.drop 11) = some r ∧ ((k = 6 ∧ r = []) ∨ (k = 5 ∧ r ≠ []))
  time : ¬ Dated l → (tod l = some [] ∧ k = 8) ∨ (tod l ≠ some [] ∧ k = 0)

/-- A text that begins as a date is no time of day. -/
theorem dated_no_time {l : List UInt8} (h : Dated l) : tod l = none := by
  have h2 : ∃ x, l[2]? = some x ∧ ten.contains x = true := by
    obtain ⟨h1, h2⟩ := h
    have h3 : allD ((l.take 10).take 4 ++ ((l.take 10).drop 5).take 2 ++ (l.take 10).drop 8) = true := by
      unfold isDB at h2
      simp only [Bool.and_eq_true] at h2
      exact h2.2.2
    have h4 := (allD_append (allD_append h3).1).1
    rw [List.take_take] at h4
    have hlt : 2 < l.length := by omega
    refine ⟨l[2], List.getElem?_eq_getElem hlt, ?_⟩
    refine allD_mem h4 _ ?_
    rw [List.mem_iff_getElem]
    exact ⟨2, by simp; omega, by simp⟩
  obtain ⟨x, hx, hd⟩ := h2
  have hne : x ≠ 58 := fun e => by rw [e] at hd; exact absurd hd (by decide)
  have hb : badClock l = true := by
    unfold badClock
    rw [hx]
    simp [hne]
  unfold tod
  rw [if_pos hb]

theorem take_dated {l : List UInt8} (h : Dated l) : Dated (l.take 10) := by
  refine ⟨by rw [List.length_take]; have := h.1; omega, ?_⟩
  rw [List.take_take]
  exact h.2

/-- The law, plainly. -/
theorem law {l : List UInt8} {k : Int} (h : KindIs l k) :
    ((k = 8 ↔ tod l = some []) ∧ ((k = 6 ∨ k = 5) → 10 < l.length ∧ (∀ k', KindIs (l.take 10) k' → k' = 7) ∧ ∃ r, tod (l.drop 11) = some r ∧ (k = 6 → r = []) ∧ (k = 5 → r ≠ [])) ∧ (k = 7 → l.length = 10)) ∧ (k = 0 ∨ k = 5 ∨ k = 6 ∨ k = 7 ∨ k = 8) := by
  by_cases hd : Dated l
  · have ht := dated_no_time hd
    rw [ht]
    by_cases hb : badDate (l.take 10) = true
    · have hk := h.date hd hb
      subst hk
      simp
    · have hb' : badDate (l.take 10) = false := by simpa using hb
      by_cases hlen : l.length = 10
      · have hk := h.alone hd hb' hlen
        subst hk
        simp [hlen]
      · have hlt : 10 < l.length := by have := hd.1; omega
        have h7 : ∀ k', KindIs (l.take 10) k' → k' = 7 := fun k' h' => h'.alone (take_dated hd) (by rw [List.take_take]; exact hb') (by rw [List.length_take]; omega)
        rcases h.joined hd hb' hlt with hk | ⟨r, hr, ⟨hk, e⟩ | ⟨hk, e⟩⟩
        · subst hk; simp
        · subst hk
          exact ⟨⟨by simp, fun _ => ⟨hlt, h7, r, hr, fun _ => e, fun h => by omega⟩, fun h => by omega⟩, by omega⟩
        · subst hk
          exact ⟨⟨by simp, fun _ => ⟨hlt, h7, r, hr, fun h => by omega, fun _ => e⟩, fun h => by omega⟩, by omega⟩
  · rcases h.time hd with ⟨h1, hk⟩ | ⟨h1, hk⟩
    · subst hk; simp [h1]
    · subst hk; simp [h1]
end Go.Proofs.Qxb6604799aDoor.Pl
