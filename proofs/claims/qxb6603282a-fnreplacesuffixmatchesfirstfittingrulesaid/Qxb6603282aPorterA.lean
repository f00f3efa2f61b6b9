import Derived.Test.Qxb6603282aSuffix
namespace Go.Proofs.Qxb6603282a
open Go.RowKit
attribute [local go_sem] st_size st_toList st_get st_extract st_append

/-- Is the letter at i a consonant? -/
def cAt (l : List UInt8) (i : Nat) : Bool := cls (l.take (i + 1))
theorem cAt_step {l : List UInt8} {k : Nat} (h : k + 1 < l.length) : cAt l (k + 1) = con l[k + 1] (cAt l k) := cls_take h
theorem cAt_zero {l : List UInt8} (h : 0 < l.length) : cAt l 0 = con l[0] false := cls_take h

set_option maxHeartbeats 400000 in
/-- (porterWord).consonant -/
theorem consonantAt (l : List UInt8) (n : Nat) (w : World) (hn : n < l.length) (hl : l.length ≤ 1048576) :
    Calls Try.prog 48 #[.string (st l), .int .i64 n] w fun e w' => e = .returned (.bool (cAt l n)) ∧ w' = w := by
  go_enter Try.func48, Try.ntmps48
  go_wp2
  go_loop [5, 9] (fun c i => ∃ k : Nat, k ≤ n + 1 ∧ i = .int .i64 k ∧ c = .bool (cls (l.take k))) (fun _ i => (n + 1) - (intOf i).toNat)
  case atStart => exact ⟨0, Nat.zero_le _, rfl, rfl⟩
  case round =>
    obtain ⟨k, hk, rfl, rfl⟩ := hrel
    by_cases hlt : k < n + 1
    · have hkl : k < l.length := by omega
      have HC := cls_take hkl
      have hca := consonantAfter l[k] (cls (l.take k)) w
      rw [← HC] at hca
      have HCA : Hid (Calls Try.prog 45 #[.int .u8 (l[k].toNat : Int), .bool (cls (l.take k))] w fun e w' => e = .returned (.bool (cls (l.take (k + 1)))) ∧ w' = w) := hca
      clear hca HC
      go_wp2_with (go_at_call 45; refine HCA.out.mono ?_; rintro e w1 ⟨rfl, rfl⟩)
      go_round
      case rel => exact ⟨k + 1, by omega, by go_num, rfl⟩
      case measure => simp [intOf]; omega
    · have ek : k = n + 1 := by omega
      subst ek
      go_wp2
      go_ret
      exact ⟨rfl, rfl⟩

/-- Does l hold a vowel? -/
def hasV (l : List UInt8) : Bool := (List.range l.length).any fun k => !cAt l k
theorem hasV_true {l : List UInt8} {k : Nat} (h : k < l.length) (hc : cAt l k = false) : hasV l = true := by
  unfold hasV
  rw [List.any_eq_true]
  exact ⟨k, by simpa using h, by simp [hc]⟩
theorem hasV_false {l : List UInt8} (h : ∀ k, k < l.length → cAt l k = true) : hasV l = false := by
  unfold hasV
  rw [List.any_eq_false]
  intro k hk
  simp [h k (by simpa using hk)]

set_option maxHeartbeats 400000 in
/-- (porterWord).hasVowel -/
theorem hasVowel (l : List UInt8) (w : World) (hl : l.length ≤ 1048576) :
    Calls Try.prog 41 #[.string (st l)] w fun e w' => e = .returned (.bool (hasV l)) ∧ w' = w := by
  go_enter Try.func41, Try.ntmps41
  go_wp2
  go_loop [3, 7] (fun c i => ∃ k : Nat, k ≤ l.length ∧ i = .int .i64 k ∧ c = .bool (cls (l.take k)) ∧ ∀ j, j < k → cAt l j = true) (fun _ i => l.length - (intOf i).toNat)
  case atStart => exact ⟨0, Nat.zero_le _, rfl, rfl, fun j hj => by omega⟩
  case round =>
    obtain ⟨k, hk, rfl, rfl, hall⟩ := hrel
    have HALL : Hid (∀ j, j < k → cAt l j = true) := hall
    clear hall
    by_cases hkl : k < l.length
    · have HC := cls_take hkl
      have hca := consonantAfter l[k] (cls (l.take k)) w
      rw [← HC] at hca
      cases hb : cls (l.take (k + 1)) with
      | false =>
        rw [hb] at hca
        have HCA : Hid (Calls Try.prog 45 #[.int .u8 (l[k].toNat : Int), .bool (cls (l.take k))] w fun e w' => e = .returned (.bool false) ∧ w' = w) := hca
        have HV : Hid (hasV l = true) := hasV_true hkl hb
        clear hca HC hb
        go_wp2_with (go_at_call 45; refine HCA.out.mono ?_; rintro e w1 ⟨rfl, rfl⟩)
        go_ret
        exact ⟨ret_bool' HV.out.symm, rfl⟩
      | true =>
        rw [hb] at hca
        have HCA : Hid (Calls Try.prog 45 #[.int .u8 (l[k].toNat : Int), .bool (cls (l.take k))] w fun e w' => e = .returned (.bool true) ∧ w' = w) := hca
        have HB : Hid (cls (l.take (k + 1)) = true) := hb
        clear hca HC hb
        go_wp2_with (go_at_call 45; refine HCA.out.mono ?_; rintro e w1 ⟨rfl, rfl⟩)
        go_round
        case rel =>
          refine ⟨k + 1, by omega, by go_num, by rw [HB.out], fun j hj => ?_⟩
          by_cases e : j = k
          · subst e; exact HB.out
          · exact HALL.out j (by omega)
        case measure => simp [intOf]; omega
    · have HV : Hid (hasV l = false) := hasV_false (fun j hj => HALL.out j (by omega))
      go_wp2
      go_ret
      exact ⟨ret_bool' HV.out.symm, rfl⟩

/-- Does l end in two of one consonant? -/
def dbl (l : List UInt8) : Bool := decide (2 ≤ l.length) && (l.getD (l.length - 1) 0 == l.getD (l.length - 2) 0) && cAt l (l.length - 1)
/-- Does l end in a consonant, a vowel and a consonant that is not w, x or y? -/
def cvc (l : List UInt8) : Bool := decide (3 ≤ l.length) && cAt l (l.length - 3) && !cAt l (l.length - 2) && cAt l (l.length - 1) && !(l.getD (l.length - 1) 0 == 119) && !(l.getD (l.length - 1) 0 == 120) && !(l.getD (l.length - 1) 0 == 121)

theorem u8_beq (a b : UInt8) : ((a.toNat : Int) == (b.toNat : Int)) = (a == b) := by
  rw [Bool.eq_iff_iff, beq_iff_eq, beq_iff_eq, ← UInt8.toNat_inj]
  omega

theorem getD_last {l : List UInt8} {k : Nat} (h : k < l.length) : l.getD k 0 = l[k] := by simp [List.getD, h]

set_option maxHeartbeats 800000 in
/-- (porterWord).endsInDoubleConsonant -/
theorem endsDouble (l : List UInt8) (w : World) (hl : l.length ≤ 1048576) :
    Calls Try.prog 42 #[.string (st l)] w fun e w' => e = .returned (.bool (dbl l)) ∧ ∃ n, w' = w.drewN n := by
  by_cases h2 : 2 ≤ l.length
  · have g1 : (2 : Int) ≤ (l.length : Int) := by omega
    have w1 : IntKind.i64.wrap ((l.length : Int) - 1) = ((l.length - 1 : Nat) : Int) := by rw [IntKind.wrap_i64]; omega
    have w2 : IntKind.i64.wrap ((l.length : Int) - 2) = ((l.length - 2 : Nat) : Int) := by rw [IntKind.wrap_i64]; omega
    have l1 : l.length - 1 < l.length := by omega
    have l2 : l.length - 2 < l.length := by omega
    have l1' : ((l.length - 1 : Nat) : Int) < (l.length : Int) := by omega
    have l2' : ((l.length - 2 : Nat) : Int) < (l.length : Int) := by omega
    have hd : dbl l = ((l[l.length - 1] == l[l.length - 2]) && cAt l (l.length - 1)) := by
      unfold dbl
      rw [getD_last l1, getD_last l2]
      simp [h2]
    have he : (((l[l.length - 1]).toNat : Int) == ((l[l.length - 2]).toNat : Int)) = (l[l.length - 1] == l[l.length - 2]) := u8_beq _ _
    have HC : Hid (∀ W, Calls Try.prog 48 #[.string (st l), .int .i64 ((l.length - 1 : Nat) : Int)] W fun e w' => e = .returned (.bool (cAt l (l.length - 1))) ∧ w' = W) := fun W => consonantAt l (l.length - 1) W l1 hl
    rw [hd]
    clear hd
    generalize (l[l.length - 1] == l[l.length - 2]) = be at *
    generalize cAt l (l.length - 1) = bc at *
    cases be
    · go_enter Try.func42, Try.ntmps42
      go_wp2
      go_quiet (fail)
      go_wp2
      go_ret
      exact ⟨rfl, _, rfl⟩
    · go_enter Try.func42, Try.ntmps42
      go_wp2
      go_quiet ((go_at_call 48; exact Calls.quiet_of_same (HC.out _)))
      go_wp2
      go_ret
      exact ⟨ret_bool' (by simp), _, rfl⟩
  · have hd : dbl l = false := by unfold dbl; simp; omega
    have g1 : decide ((2 : Int) ≤ (l.length : Int)) = false := by simp; omega
    rw [hd]
    clear hd
    go_enter Try.func42, Try.ntmps42
    go_wp2
    go_quiet (fail)
    go_wp2
    go_ret
    exact ⟨rfl, _, rfl⟩

end Go.Proofs.Qxb6603282a
