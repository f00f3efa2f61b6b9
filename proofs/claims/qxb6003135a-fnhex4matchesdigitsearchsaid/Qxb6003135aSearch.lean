import Derived.Test.Qxb6003135aDigits
namespace Go.Proofs.Qxb6003135a
open Go.RowKit

theorem lo_at (k : Nat) (h : k < (⟨#[48, 49, 50, 51, 52, 53, 54, 55, 56, 57, 97, 98, 99, 100, 101, 102]⟩ : ByteArray).size) :
    ((⟨#[48, 49, 50, 51, 52, 53, 54, 55, 56, 57, 97, 98, 99, 100, 101, 102]⟩ : ByteArray)[k]'h).toNat = lo.getD k 0 := by
  have key : ∀ k : Fin 16, ((⟨#[48, 49, 50, 51, 52, 53, 54, 55, 56, 57, 97, 98, 99, 100, 101, 102]⟩ : ByteArray)[k.val]'(k.isLt)).toNat = lo.getD k.val 0 := by decide
  exact key ⟨k, h⟩

theorem up_at (k : Nat) (h : k < (⟨#[48, 49, 50, 51, 52, 53, 54, 55, 56, 57, 65, 66, 67, 68, 69, 70]⟩ : ByteArray).size) :
    ((⟨#[48, 49, 50, 51, 52, 53, 54, 55, 56, 57, 65, 66, 67, 68, 69, 70]⟩ : ByteArray)[k]'h).toNat = up.getD k 0 := by
  have key : ∀ k : Fin 16, ((⟨#[48, 49, 50, 51, 52, 53, 54, 55, 56, 57, 65, 66, 67, 68, 69, 70]⟩ : ByteArray)[k.val]'(k.isLt)).toNat = up.getD k.val 0 := by decide
  exact key ⟨k, h⟩

theorem hit_lo {c : UInt8} {k : Nat} (hk : k < 16) (h : ((lo.getD k 0 : Nat) : Int) = (c.toNat : Int)) : hv c = some k :=
  (hv_digit c ⟨k, hk⟩).1 (.inl (by exact_mod_cast h))

theorem hit_or {c : UInt8} {k : Nat} (hk : k < 16) (h : (((lo.getD k 0 : Nat) : Int) == (c.toNat : Int)) = true ∨ (((up.getD k 0 : Nat) : Int) == (c.toNat : Int)) = true) : hv c = some k := by
  refine (hv_digit c ⟨k, hk⟩).1 ?_
  rcases h with h | h
  · exact .inl (by exact_mod_cast eq_of_beq h)
  · exact .inr (by exact_mod_cast eq_of_beq h)

theorem miss {c : UInt8} {k : Nat} (h : (((lo.getD k 0 : Nat) : Int) == (c.toNat : Int)) = false ∧ (((up.getD k 0 : Nat) : Int) == (c.toNat : Int)) = false) (hno : ∀ j : Fin 16, j.val < k → hv c ≠ some j.val) :
    ∀ j : Fin 16, j.val < k + 1 → hv c ≠ some j.val := by
  intro j hj
  by_cases e : j.val = k
  · intro he
    have := (hv_digit c j).2 he
    obtain ⟨h1, h2⟩ := h
    rw [beq_eq_false_iff_ne] at h1 h2
    rw [e] at this
    rcases this with h | h
    · exact h1 (by exact_mod_cast h)
    · exact h2 (by exact_mod_cast h)
  · exact hno j (by omega)

theorem found {c : UInt8} {k : Nat} (h : hv c = some k) : Ending.returned (.tuple #[.int .i64 (k : Int), .bool true]) = .returned (.tuple #[.int .i64 ((hv c).getD 0 : Nat), .bool (hv c).isSome]) := by rw [h]; rfl

set_option maxHeartbeats 400000 in
/-- hexDigitValue. -/
theorem digitValue (c : UInt8) (w : World) :
    Calls Try.prog 9 #[.int .u8 (c.toNat : Int)] w fun e w' => e = .returned (.tuple #[.int .i64 ((hv c).getD 0 : Nat), .bool (hv c).isSome]) ∧ w' = w := by
  go_enter Try.func9, Try.ntmps9
  go_wp2
  go_loopw [4] (fun i wr => ∃ k : Nat, k ≤ 16 ∧ i = .int .i64 k ∧ (∀ j : Fin 16, j.val < k → hv c ≠ some j.val) ∧ wr = w) (fun i _ => 16 - (intOf i).toNat)
  case atStart => exact ⟨0, by omega, rfl, by simp, rfl⟩
  case round =>
    obtain ⟨k, hk, rfl, hno, rfl⟩ := hrel
    by_cases hlt : k < 16
    · have HN : Hid (∀ j : Fin 16, j.val < k → hv c ≠ some j.val) := hno
      clear hno
      go_wp2
      · rename_i h
        rw [lo_at] at h
        go_ret2
        exact ⟨found (hit_lo hlt h), rfl⟩
      · rename_i h
        rw [lo_at, up_at] at h
        go_ret2
        exact ⟨found (hit_or hlt h), rfl⟩
      · rename_i h
        rw [lo_at, up_at] at h
        have h5 := miss h HN.out
        go_roundw
        case rel => exact ⟨k + 1, by omega, by go_num, h5, trivial⟩
        case measure => simp [intOf]; omega
    · have h5 := hv_none c fun j => hno j (by omega)
      go_wp2
      go_ret2
      exact ⟨by rw [h5]; rfl, rfl⟩

end Go.Proofs.Qxb6003135a
