import Derived.Test.Qxb6603282aWords
namespace Go.Proofs.Qxb6603282a
open Go.RowKit
attribute [local go_sem] st_size st_toList st_get st_extract st_append

/-- Does l end in m? -/
def suf (l m : List UInt8) : Bool := decide (m.length ≤ l.length) && (l.drop (l.length - m.length) == m)
/-- Does l begin with m? -/
def pre (l m : List UInt8) : Bool := decide (m.length ≤ l.length) && (l.take m.length == m)

theorem suf_false {l m : List UInt8} (h : l.length < m.length) : suf l m = false := by simp [suf]; omega
theorem suf_true {l m : List UInt8} (h : m.length ≤ l.length) : suf l m = (l.drop (l.length - m.length) == m) := by simp [suf, h]
theorem pre_false {l m : List UInt8} (h : l.length < m.length) : pre l m = false := by simp [pre]; omega
theorem pre_true {l m : List UInt8} (h : m.length ≤ l.length) : pre l m = (l.take m.length == m) := by simp [pre, h]

set_option maxHeartbeats 400000 in
theorem slHasSuffix (l m : List UInt8) (w : World) (hl : l.length ≤ maxLen) (hm : m.length ≤ maxLen) :
    Calls Try.prog 47 #[.string (st l), .string (st m)] w fun e w' => e = .returned (.bool (suf l m)) ∧ w' = w := by
  unfold maxLen at hl hm
  by_cases h : m.length ≤ l.length
  · rw [suf_true h]
    have h' : ((m.length : Int) ≤ (l.length : Int)) := by omega
    have e1 : l.take l.length = l := List.take_of_length_le (Nat.le_refl _)
    go_enter Try.func47, Try.ntmps47
    go_wp2
    go_ret
    exact ⟨rfl, rfl⟩
  · rw [suf_false (by omega)]
    have h' : ¬ ((m.length : Int) ≤ (l.length : Int)) := by omega
    go_enter Try.func47, Try.ntmps47
    go_wp2
    go_ret
    exact ⟨rfl, rfl⟩

set_option maxHeartbeats 400000 in
theorem hasSuffix (l m : List UInt8) (w : World) (hl : l.length ≤ maxLen) (hm : m.length ≤ maxLen) :
    Calls Try.prog 40 #[.string (st l), .string (st m)] w fun e w' => e = .returned (.bool (suf l m)) ∧ w' = w := by
  go_enter Try.func40, Try.ntmps40
  go_wp2_with (go_at_call 47; refine (slHasSuffix l m w hl hm).mono ?_; rintro e w1 ⟨rfl, rfl⟩)
  go_ret
  exact ⟨rfl, rfl⟩

set_option maxHeartbeats 400000 in
theorem zzHasSuffix (l m : List UInt8) (w : World) (hl : l.length ≤ maxLen) (hm : m.length ≤ maxLen) :
    Calls Try.prog 13 #[.string (st l), .string (st m)] w fun e w' => e = .returned (.bool (suf l m)) ∧ w' = w := by
  unfold maxLen at hl hm
  by_cases h : m.length ≤ l.length
  · rw [suf_true h]
    have h' : ((m.length : Int) ≤ (l.length : Int)) := by omega
    have e1 : l.take l.length = l := List.take_of_length_le (Nat.le_refl _)
    go_enter Try.func13, Try.ntmps13
    go_wp2
    go_ret
    exact ⟨rfl, rfl⟩
  · rw [suf_false (by omega)]
    have h' : ¬ ((m.length : Int) ≤ (l.length : Int)) := by omega
    go_enter Try.func13, Try.ntmps13
    go_wp2
    go_ret
    exact ⟨rfl, rfl⟩

set_option maxHeartbeats 400000 in
theorem zzHasPrefix (l m : List UInt8) (w : World) :
    Calls Try.prog 14 #[.string (st l), .string (st m)] w fun e w' => e = .returned (.bool (pre l m)) ∧ w' = w := by
  by_cases h : m.length ≤ l.length
  · rw [pre_true h]
    have h' : ((m.length : Int) ≤ (l.length : Int)) := by omega
    go_enter Try.func14, Try.ntmps14
    go_wp2
    go_ret
    exact ⟨rfl, rfl⟩
  · rw [pre_false (by omega)]
    have h' : ¬ ((m.length : Int) ≤ (l.length : Int)) := by omega
    go_enter Try.func14, Try.ntmps14
    go_wp2
    go_ret
    exact ⟨rfl, rfl⟩

set_option maxHeartbeats 400000 in
/-- ZZMeasure -/
theorem zzMeasureOf (l : List UInt8) (w : World) (hl : l.length ≤ maxLen) :
    Calls Try.prog 21 #[.string (st l)] w fun e w' => e = .returned (.int .i64 (meas l)) ∧ w' = w := by
  go_enter Try.func21, Try.ntmps21
  go_wp2_with (go_at_call 38; refine (measure l w hl).mono ?_; rintro e w1 ⟨rfl, rfl⟩)
  go_ret
  exact ⟨rfl, rfl⟩

end Go.Proofs.Qxb6603282a
