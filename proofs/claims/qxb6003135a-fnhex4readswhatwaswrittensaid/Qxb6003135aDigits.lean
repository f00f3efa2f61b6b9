import Derived.Test.Qxb6003135aBytes
namespace Go.Proofs.Qxb6003135a
open Go.RowKit

/-- The worth of a hexadecimal digit. -/
def hv (c : UInt8) : Option Nat :=
  if 48 ≤ c ∧ c ≤ 57 then some (c.toNat - 48) else if 97 ≤ c ∧ c ≤ 102 then some (c.toNat - 87) else if 65 ≤ c ∧ c ≤ 70 then some (c.toNat - 55) else none

/-- The two rows of digits. -/
def lo : List Nat := [48, 49, 50, 51, 52, 53, 54, 55, 56, 57, 97, 98, 99, 100, 101, 102]
def up : List Nat := [48, 49, 50, 51, 52, 53, 54, 55, 56, 57, 65, 66, 67, 68, 69, 70]

theorem all_bytes {p : UInt8 → Prop} [DecidablePred p] (h : ∀ n : Fin 256, p (UInt8.ofNat n.val)) (c : UInt8) : p c := by
  have := h ⟨c.toNat, c.toNat_lt⟩
  simpa using this

theorem hv_lt {c : UInt8} {d : Nat} (h : hv c = some d) : d < 16 := by
  have : ∀ c : UInt8, (hv c).getD 0 < 16 := all_bytes (by decide +kernel)
  have h2 := this c
  rw [h] at h2
  exact h2

theorem hv_digit (c : UInt8) : ∀ k : Fin 16, (lo.getD k.val 0 = c.toNat ∨ up.getD k.val 0 = c.toNat) ↔ hv c = some k.val := by
  revert c
  exact all_bytes (by decide +kernel)

theorem hv_none (c : UInt8) : (∀ k : Fin 16, hv c ≠ some k.val) → hv c = none := by
  revert c
  exact all_bytes (by decide +kernel)

end Go.Proofs.Qxb6003135a
