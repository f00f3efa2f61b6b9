import Derived.Test.Qxb6603282aModelB
namespace Go.Proofs.Qxb6603282a
open Go.RowKit
attribute [local go_sem] st_size st_toList st_get st_extract st_append

set_option maxHeartbeats 800000 in
/-- zzHasVowel -/
theorem zzHasVowel (l : List UInt8) (w : World) (hl : l.length ≤ 1048576) :
    Calls Try.prog 34 #[.string (st l)] w fun e w' => e = .returned (.bool (hasV l)) ∧ Below w.heap.size w w' := by
  go_enter Try.func34, Try.ntmps34
  go_wp2_with fail
  refine (consonants l w hl).mono ?_
  rintro e w1 ⟨rfl, hrow, hb⟩
  have HB : Hid (Below w.heap.size w w1) := hb
  clear hb
  go_wp2
  go_loop [4] (fun i => ∃ k : Nat, k ≤ l.length ∧ i = .int .i64 k ∧ ∀ j, j < k → cAt l j = true) (fun i => l.length - (intOf i).toNat)
  case atStart => exact ⟨0, Nat.zero_le _, rfl, fun j hj => by omega⟩
  case round =>
    obtain ⟨k, hk, rfl, hall⟩ := hrel
    have HALL : Hid (∀ j, j < k → cAt l j = true) := hall
    clear hall
    by_cases hlt : k < l.length
    · have cK := hrow.cell hlt
      cases hc : cAt l k with
      | true =>
        rw [hc] at cK
        have HC : Hid (cAt l k = true) := hc
        clear hrow hc
        go_wp2
        go_round
        case rel =>
          refine ⟨k + 1, by omega, by go_num, fun j hj => ?_⟩
          by_cases e : j = k
          · subst e; exact HC.out
          · exact HALL.out j (by omega)
        case measure => simp [intOf]; omega
      | false =>
        rw [hc] at cK
        have HV : Hid (hasV l = true) := hasV_true hlt hc
        clear hrow hc
        go_wp2
        go_ret
        exact ⟨ret_bool' HV.out.symm, HB.out⟩
    · have HV : Hid (hasV l = false) := hasV_false (fun j hj => HALL.out j (by omega))
      clear hrow
      go_wp2
      go_ret
      exact ⟨ret_bool' HV.out.symm, HB.out⟩

set_option maxHeartbeats 800000 in
/-- zzEndsDouble -/
theorem zzEndsDouble (l : List UInt8) (w : World) (hl : l.length ≤ 1048576) :
    Calls Try.prog 35 #[.string (st l)] w fun e w' => e = .returned (.bool (dbl l)) ∧ Below w.heap.size w w' := by
  by_cases h2 : 2 ≤ l.length
  · have g1 : ¬ (l.length : Int) < 2 := by omega
    have g1d : decide ((l.length : Int) < 2) = false := by simp; omega
    have w1 : IntKind.i64.wrap ((l.length : Int) - 1) = ((l.length - 1 : Nat) : Int) := by rw [IntKind.wrap_i64]; omega
    have w2 : IntKind.i64.wrap ((l.length : Int) - 2) = ((l.length - 2 : Nat) : Int) := by rw [IntKind.wrap_i64]; omega
    have l1 : l.length - 1 < l.length := by omega
    have l2 : l.length - 2 < l.length := by omega
    have l1' : ((l.length - 1 : Nat) : Int) < (l.length : Int) := by omega
    have l2' : ((l.length - 2 : Nat) : Int) < (l.length : Int) := by omega
    have hd : dbl l = ((l[l.length - 1] == l[l.length - 2]) && cAt l (l.length - 1)) := by
      unfold dbl
      rw [getD_last l1, getD_last l2]
      simp [h2]
    have he : (((l[l.length - 1]).toNat : Int) != ((l[l.length - 2]).toNat : Int)) = !(l[l.length - 1] == l[l.length - 2]) := by rw [bne, u8_beq]
    rw [hd]
    clear hd
    generalize (l[l.length - 1] == l[l.length - 2]) = be at *
    cases be
    · go_enter Try.func35, Try.ntmps35
      go_wp2
      go_quiet (fail)
      go_wp2
      go_ret
      exact ⟨rfl, ⟨rfl, rfl, rfl, Nat.le_refl _, fun _ _ => rfl⟩⟩
    · go_enter Try.func35, Try.ntmps35
      go_wp2
      go_quiet (fail)
      obtain ⟨wq, hwq⟩ : ∃ wq, wq = w.drewN nq := ⟨_, rfl⟩
      rw [← hwq]
      have HBQ : Hid (Below w.heap.size w wq) := by show Below _ _ _; rw [hwq]; exact ⟨rfl, rfl, rfl, Nat.le_refl _, fun _ _ => rfl⟩
      clear hwq
      go_wp2_with fail
      refine (consonants l wq hl).mono ?_
      rintro e w3 ⟨rfl, hrow, hb⟩
      have cK := hrow.cell l1
      have HB3 : Hid (Below w.heap.size w w3) := HBQ.out.trans (hb.mono HBQ.out.size)
      clear hrow hb w1 w2
      go_wp2
      go_ret
      exact ⟨ret_bool' (by simp), HB3.out⟩
  · have hd : dbl l = false := by unfold dbl; simp; omega
    have g1 : (l.length : Int) < 2 := by omega
    have g1d : decide ((l.length : Int) < 2) = true := by simp; omega
    rw [hd]
    clear hd
    go_enter Try.func35, Try.ntmps35
    go_wp2
    go_quiet (fail)
    go_wp2
    go_ret
    exact ⟨rfl, ⟨rfl, rfl, rfl, Nat.le_refl _, fun _ _ => rfl⟩⟩

set_option maxHeartbeats 800000 in
/-- zzEndsCVC -/
theorem zzEndsCVC (l : List UInt8) (w : World) (hl : l.length ≤ 1048576) :
    Calls Try.prog 36 #[.string (st l)] w fun e w' => e = .returned (.bool (cvc l)) ∧ Below w.heap.size w w' := by
  by_cases h3 : 3 ≤ l.length
  · have g1 : ¬ (l.length : Int) < 3 := by omega
    have l1 : l.length - 1 < l.length := by omega
    go_enter Try.func36, Try.ntmps36
    go_wp2_with fail
    refine (consonants l w hl).mono ?_
    rintro e w1 ⟨rfl, hrow, hb⟩
    have HB : Hid (Below w.heap.size w w1) := hb
    have c3 := hrow.cell (show l.length - 3 < l.length by omega)
    have c2 := hrow.cell (show l.length - 2 < l.length by omega)
    have c1 := hrow.cell l1
    clear hb hrow
    cases h3' : cAt l (l.length - 3) with
    | false =>
      rw [h3'] at c3
      have HO : Hid (cvc l = false) := cvc_a h3'
      clear h3'
      go_wp2
      go_ret
      exact ⟨ret_bool' HO.out.symm, HB.out⟩
    | true =>
      rw [h3'] at c3
      cases h2' : cAt l (l.length - 2) with
      | true =>
        rw [h2'] at c2
        have HO : Hid (cvc l = false) := cvc_b h2'
        clear h3' h2'
        go_wp2
        go_ret
        exact ⟨ret_bool' HO.out.symm, HB.out⟩
      | false =>
        rw [h2'] at c2
        cases h1' : cAt l (l.length - 1) with
        | false =>
          rw [h1'] at c1
          have HO : Hid (cvc l = false) := cvc_c h1'
          clear h3' h2' h1'
          go_wp2
          go_ret
          exact ⟨ret_bool' HO.out.symm, HB.out⟩
        | true =>
          rw [h1'] at c1
          have HO : Hid (cvc l = (!(l[l.length - 1] == 119) && !(l[l.length - 1] == 120) && !(l[l.length - 1] == 121))) := cvc_d h3 h3' h2' h1' l1
          have e119 : (((l[l.length - 1]).toNat : Int) != 119) = !(l[l.length - 1] == 119) := u8_bne _ 119 (by omega)
          have e120 : (((l[l.length - 1]).toNat : Int) != 120) = !(l[l.length - 1] == 120) := u8_bne _ 120 (by omega)
          have e121 : (((l[l.length - 1]).toNat : Int) != 121) = !(l[l.length - 1] == 121) := u8_bne _ 121 (by omega)
          clear h3' h2' h1'
          generalize (l[l.length - 1] == 119) = x1 at *
          generalize (l[l.length - 1] == 120) = x2 at *
          generalize (l[l.length - 1] == 121) = x3 at *
          cases x1 <;> cases x2 <;> cases x3
          all_goals
            go_wp2
            go_ret
            exact ⟨ret_bool' (by rw [HO.out]; rfl), HB.out⟩
  · have g1 : (l.length : Int) < 3 := by omega
    rw [cvc_short h3]
    go_enter Try.func36, Try.ntmps36
    go_wp2
    go_ret
    exact ⟨rfl, Below.refl _ _⟩

end Go.Proofs.Qxb6603282a
