/-
  seat b6604708aD: bytes.IndexByte at a window of the buffer, Buffered, readErr.
-/
import Derived.Test.Qxb6604708aDoorRead
import Derived.Test.Qxb6604708aDoorShelf
import Derived.Lib.IndexLaws
namespace Go.Proofs.Qxb6604708aDoor
open Go Go.RowKit

theorem nums_getD (bs : List UInt8) (i : Nat) : (bs.map fun b => (b.toNat : Int)).getD i 0 = ((bs.getD i 0).toNat : Int) := by
  rw [List.getD_eq_getElem?_getD, List.getD_eq_getElem?_getD, List.getElem?_map]
  cases bs[i]? <;> rfl

theorem bytes_nums (bs : List UInt8) : Lib.bytesOf (bs.map fun b => (b.toNat : Int)) = bs := by
  unfold Lib.bytesOf
  rw [List.map_map]
  conv => rhs; rw [← List.map_id bs]
  refine List.map_congr_left fun b _ => ?_
  simp

/-- bytes.IndexByte(b, '\n'). -/
theorem index_row (a : Addr) (n c : Nat) (bs : List UInt8) (w : World) (hl : bs.length = n) (hc : ∀ i, i < n → w.cell? (a.add i) = some (.int .u8 (bs.getD i 0).toNat)) :
    Calls Tryd.prog 39 #[.slice (some a) n c, .int .u8 10] w fun e w' => e = .returned (.int .i64 (Lib.indexByte bs 10)) ∧ w' = w := by
  have h := Tryd.bytes_IndexByte_at a n c (bs.map fun b => (b.toNat : Int)) 10 w (by rw [List.length_map]; exact hl) (fun i hi => by rw [nums_getD]; exact hc i hi)
  rw [bytes_nums] at h
  exact h

theorem indexByte_cases (bs : List UInt8) : (∃ o : Nat, Lib.indexByte bs 10 = o ∧ o < bs.length ∧ bs[o]? = some 10 ∧ (10 : UInt8) ∉ bs.take o) ∨ (Lib.indexByte bs 10 = -1 ∧ (10 : UInt8) ∉ bs) := by
  by_cases h : Lib.indexByte bs 10 = -1
  · refine Or.inr ⟨h, fun hm => ?_⟩
    obtain ⟨k, hk⟩ := List.getElem?_of_mem hm
    exact Lib.indexByte_none h k hk
  · have h0 := Lib.indexByte_ge bs 10
    obtain ⟨o, ho⟩ := Int.eq_ofNat_of_zero_le (show 0 ≤ Lib.indexByte bs 10 by omega)
    obtain ⟨h1, h2⟩ := Lib.indexByte_some ho
    refine Or.inl ⟨o, ho, (List.getElem?_eq_some_iff.1 h1).1, h1, fun hm => ?_⟩
    obtain ⟨k, hk⟩ := List.getElem?_of_mem hm
    rw [List.getElem?_take] at hk
    split at hk
    · next h => exact h2 k h hk
    · cases hk

set_option maxRecDepth 100000 in
set_option maxHeartbeats 1000000 in
theorem buffered (B r e : Nat) (w : World) (h2 : w.cell? ⟨B, 2, none⟩ = some (.int .i64 r)) (h3 : w.cell? ⟨B, 3, none⟩ = some (.int .i64 e)) (hre : r ≤ e) (he : e ≤ 2000000) :
    Calls Tryd.prog 41 #[.pointer (some ⟨B, 0, none⟩)] w fun x w' => x = .returned (.int .i64 (e - r : Nat)) ∧ ∃ q, w' = w.drewN q := by
  go_enter Tryd.func41, Tryd.ntmps41
  go_upto_region 1 with fail
  go_quiet (fail)
  go_wp2
  go_ret
  exact ⟨by simp; omega, _, rfl⟩

set_option maxRecDepth 100000 in
set_option maxHeartbeats 1000000 in
theorem readErr (B : Nat) (er : Value) (w : World) (h4 : w.cell? ⟨B, 4, none⟩ = some er) (f4 : w.frozen? ⟨B, 4, none⟩ = false) :
    Calls Tryd.prog 40 #[.pointer (some ⟨B, 0, none⟩)] w fun x w' => x = .returned er ∧ w' = w.setCell ⟨B, 4, none⟩ .nilIface := by
  go_enter Tryd.func40, Tryd.ntmps40
  go_wp2
  go_ret
  exact ⟨rfl, rfl⟩
end Go.Proofs.Qxb6604708aDoor
