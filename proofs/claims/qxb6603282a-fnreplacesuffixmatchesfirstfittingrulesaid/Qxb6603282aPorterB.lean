import Derived.Test.Qxb6603282aPorterA
namespace Go.Proofs.Qxb6603282a
open Go.RowKit
attribute [local go_sem] st_size st_toList st_get st_extract st_append

theorem cvc_short {l : List UInt8} (h : ¬ 3 ≤ l.length) : cvc l = false := by simp [cvc, h]
theorem cvc_a {l : List UInt8} (h : cAt l (l.length - 3) = false) : cvc l = false := by simp [cvc, h]
theorem cvc_b {l : List UInt8} (h : cAt l (l.length - 2) = true) : cvc l = false := by simp [cvc, h]
theorem cvc_c {l : List UInt8} (h : cAt l (l.length - 1) = false) : cvc l = false := by simp [cvc, h]
theorem cvc_d {l : List UInt8} (h0 : 3 ≤ l.length) (h1 : cAt l (l.length - 3) = true) (h2 : cAt l (l.length - 2) = false) (h3 : cAt l (l.length - 1) = true) (h4 : l.length - 1 < l.length) :
    cvc l = (!(l[l.length - 1] == 119) && !(l[l.length - 1] == 120) && !(l[l.length - 1] == 121)) := by
  unfold cvc
  rw [getD_last h4]
  simp [h0, h1, h2, h3]

theorem u8_bne (b : UInt8) (n : Nat) (h : n < 256) : ((b.toNat : Int) != (n : Int)) = !(b == UInt8.ofNat n) := by
  rw [bne, u8_eq b n h]

set_option maxHeartbeats 800000 in
/-- (porterWord).endsInCVC -/
theorem endsCVC (l : List UInt8) (w : World) (hl : l.length ≤ 1048576) :
    Calls Try.prog 43 #[.string (st l)] w fun e w' => e = .returned (.bool (cvc l)) ∧ w' = w := by
  by_cases h3 : 3 ≤ l.length
  · have g1 : ¬ (l.length : Int) < 3 := by omega
    have g1d : decide ((l.length : Int) < 3) = false := by simp; omega
    have e3 : (l.length : Int) - 3 = ((l.length - 3 : Nat) : Int) := by omega
    have e2 : (l.length : Int) - 2 = ((l.length - 2 : Nat) : Int) := by omega
    have e1 : (l.length : Int) - 1 = ((l.length - 1 : Nat) : Int) := by omega
    have l1 : l.length - 1 < l.length := by omega
    have HC3 : Hid (Calls Try.prog 48 #[.string (st l), .int .i64 ((l.length : Int) - 3)] w fun e w' => e = .returned (.bool (cAt l (l.length - 3))) ∧ w' = w) := by
      show Calls _ _ _ _ _; rw [e3]; exact consonantAt l (l.length - 3) w (by omega) hl
    have HC2 : Hid (Calls Try.prog 48 #[.string (st l), .int .i64 ((l.length : Int) - 2)] w fun e w' => e = .returned (.bool (cAt l (l.length - 2))) ∧ w' = w) := by
      show Calls _ _ _ _ _; rw [e2]; exact consonantAt l (l.length - 2) w (by omega) hl
    have HC1 : Hid (Calls Try.prog 48 #[.string (st l), .int .i64 ((l.length : Int) - 1)] w fun e w' => e = .returned (.bool (cAt l (l.length - 1))) ∧ w' = w) := by
      show Calls _ _ _ _ _; rw [e1]; exact consonantAt l (l.length - 1) w (by omega) hl
    clear e1 e2 e3
    cases h3' : cAt l (l.length - 3) with
    | false =>
      rw [cvc_a h3']
      rw [h3'] at HC3
      clear h3' HC1 HC2
      go_enter Try.func43, Try.ntmps43
      go_wp2_with (go_at_call 48; refine HC3.out.mono ?_; rintro e w1 ⟨rfl, rfl⟩)
      go_ret
      exact ⟨rfl, rfl⟩
    | true =>
      rw [h3'] at HC3
      cases h2' : cAt l (l.length - 2) with
      | true =>
        rw [cvc_b h2']
        rw [h2'] at HC2
        clear h3' h2' HC1
        go_enter Try.func43, Try.ntmps43
        go_wp2_with fail
        refine HC3.out.mono ?_
        rintro e w1 ⟨rfl, rfl⟩
        go_wp2_with fail
        refine HC2.out.mono ?_
        rintro e w1 ⟨rfl, rfl⟩
        go_wp2
        go_ret
        exact ⟨rfl, rfl⟩
      | false =>
        rw [h2'] at HC2
        cases h1' : cAt l (l.length - 1) with
        | false =>
          rw [cvc_c h1']
          rw [h1'] at HC1
          clear h3' h2' h1'
          go_enter Try.func43, Try.ntmps43
          go_wp2_with fail
          refine HC3.out.mono ?_
          rintro e w1 ⟨rfl, rfl⟩
          go_wp2_with fail
          refine HC2.out.mono ?_
          rintro e w1 ⟨rfl, rfl⟩
          go_wp2_with fail
          refine HC1.out.mono ?_
          rintro e w1 ⟨rfl, rfl⟩
          go_wp2
          go_ret
          exact ⟨rfl, rfl⟩
        | true =>
          rw [h1'] at HC1
          rw [cvc_d h3 h3' h2' h1' l1]
          have e119 : (((l[l.length - 1]).toNat : Int) != 119) = !(l[l.length - 1] == 119) := u8_bne _ 119 (by omega)
          have e120 : (((l[l.length - 1]).toNat : Int) != 120) = !(l[l.length - 1] == 120) := u8_bne _ 120 (by omega)
          have e121 : (((l[l.length - 1]).toNat : Int) != 121) = !(l[l.length - 1] == 121) := u8_bne _ 121 (by omega)
          generalize (l[l.length - 1] == 119) = x1 at *
          generalize (l[l.length - 1] == 120) = x2 at *
          generalize (l[l.length - 1] == 121) = x3 at *
          clear h3' h2' h1'
          cases x1 <;> cases x2 <;> cases x3
          all_goals
            go_enter Try.func43, Try.ntmps43
            go_wp2_with fail
            refine HC3.out.mono ?_
            rintro e w1 ⟨rfl, rfl⟩
            go_wp2_with fail
            refine HC2.out.mono ?_
            rintro e w1 ⟨rfl, rfl⟩
            go_wp2_with fail
            refine HC1.out.mono ?_
            rintro e w1 ⟨rfl, rfl⟩
            go_wp2
            go_ret
            exact ⟨ret_bool' (by first | rfl | simp), rfl⟩
  · have g1 : (l.length : Int) < 3 := by omega
    rw [cvc_short h3]
    go_enter Try.func43, Try.ntmps43
    go_wp2
    go_ret
    exact ⟨rfl, rfl⟩

end Go.Proofs.Qxb6603282a
