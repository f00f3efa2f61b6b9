import Derived.Test.Qxb6603282aModelA
namespace Go.Proofs.Qxb6603282a
open Go.RowKit
attribute [local go_sem] st_size st_toList st_get st_extract st_append

/-- The runs of vowels among the first k letters. -/
def rv (l : List UInt8) (k : Nat) : Nat := meas (l.take k) + (if k = 0 then 0 else if cAt l (k - 1) then 0 else 1)

theorem cls_cAt {l : List UInt8} {k : Nat} (h : 0 < k) : cls (l.take k) = cAt l (k - 1) := by
  unfold cAt
  rw [show k - 1 + 1 = k by omega]

theorem con_cAt {l : List UInt8} {k : Nat} (h : k < l.length) : con l[k] (cls (l.take k)) = cAt l k := (cls_take h).symm

theorem rv_vowel {l : List UInt8} {k : Nat} (h : k < l.length) (hc : cAt l k = false) (hp : k = 0 ∨ cAt l (k - 1) = true) : rv l (k + 1) = rv l k + 1 := by
  unfold rv
  rw [meas_take h, con_cAt h, hc]
  simp only [Bool.and_false, Bool.false_and, Bool.false_eq_true, if_false, Nat.add_sub_cancel, hc]
  rcases hp with rfl | hp
  · simp
  · rw [hp]
    by_cases e : k = 0
    · subst e; simp
    · simp [e]

theorem rv_same {l : List UInt8} {k : Nat} (h : k < l.length) (hc : cAt l k = false) (h0 : 0 < k) (hp : cAt l (k - 1) = false) : rv l (k + 1) = rv l k := by
  unfold rv
  rw [meas_take h, con_cAt h, hc]
  simp only [Bool.and_false, Bool.false_and, Bool.false_eq_true, if_false, Nat.add_sub_cancel, hc, hp]
  simp [show k ≠ 0 by omega]

theorem rv_cons {l : List UInt8} {k : Nat} (h : k < l.length) (hc : cAt l k = true) : rv l (k + 1) = rv l k := by
  unfold rv
  rw [meas_take h, con_cAt h, hc]
  by_cases h0 : k = 0
  · subst h0
    simp [hc]
  · have hp : 0 < k := by omega
    rw [cls_cAt hp]
    cases hq : cAt l (k - 1) <;> simp [h0, hp, hc]

theorem rv_end {l : List UInt8} : rv l l.length = meas l + (if l.length = 0 then 0 else if cAt l (l.length - 1) then 0 else 1) := by
  unfold rv
  rw [List.take_length]

theorem rv_le (l : List UInt8) (k : Nat) (h : k ≤ l.length) : rv l k ≤ k + 1 := by
  unfold rv
  have := meas_le l k h
  split
  · omega
  · split <;> omega

set_option maxHeartbeats 800000 in
/-- zzMeasure -/
theorem zzMeasure (l : List UInt8) (w : World) (hl : l.length ≤ 1048576) :
    Calls Try.prog 33 #[.string (st l)] w fun e w' => e = .returned (.int .i64 (meas l)) ∧ Below w.heap.size w w' := by
  go_enter Try.func33, Try.ntmps33
  go_wp2_with fail
  refine (consonants l w hl).mono ?_
  rintro e w1 ⟨rfl, hrow, hb⟩
  have HB : Hid (Below w.heap.size w w1) := hb
  clear hb
  go_wp2
  go_loop [4, 5] (fun r i => ∃ k : Nat, k ≤ l.length ∧ i = .int .i64 k ∧ r = .int .i64 (rv l k)) (fun _ i => l.length - (intOf i).toNat)
  case atStart => exact ⟨0, Nat.zero_le _, rfl, rfl⟩
  case round =>
    obtain ⟨k, hk, rfl, rfl⟩ := hrel
    have hle := rv_le l k hk
    by_cases hlt : k < l.length
    · have cK := hrow.cell hlt
      cases hc : cAt l k with
      | true =>
        rw [hc] at cK
        have HR : Hid (rv l (k + 1) = rv l k) := rv_cons hlt hc
        clear hrow hc
        go_wp2
        go_round
        case rel => exact ⟨k + 1, by omega, by go_num, by rw [HR.out]⟩
        case measure => simp [intOf]; omega
      | false =>
        rw [hc] at cK
        by_cases h0 : k = 0
        · subst h0
          have HR : Hid (rv l (0 + 1) = rv l 0 + 1) := rv_vowel hlt hc (.inl rfl)
          clear hrow hc
          go_wp2
          go_round
          case rel => exact ⟨0 + 1, by omega, by go_num, by rw [HR.out]; go_num⟩
          case measure => simp [intOf]; omega
        · have hk0 : ((k : Int) == 0) = false := by rw [beq_eq_false_iff_ne]; omega
          have hkp : 0 < k := by omega
          have cP := hrow.cell (show k - 1 < l.length by omega)
          cases hp : cAt l (k - 1) with
          | true =>
            rw [hp] at cP
            have HR : Hid (rv l (k + 1) = rv l k + 1) := rv_vowel hlt hc (.inr hp)
            clear hrow hc hp h0
            go_wp2
            go_round
            case rel => exact ⟨k + 1, by omega, by go_num, by rw [HR.out]; go_num⟩
            case measure => simp [intOf]; omega
          | false =>
            rw [hp] at cP
            have HR : Hid (rv l (k + 1) = rv l k) := rv_same hlt hc hkp hp
            clear hrow hc hp h0
            go_wp2
            go_round
            case rel => exact ⟨k + 1, by omega, by go_num, by rw [HR.out]⟩
            case measure => simp [intOf]; omega
    · have ek : k = l.length := by omega
      subst ek
      have HE := rv_end (l := l)
      by_cases h0 : l.length = 0
      · have h0' : ¬ (0 : Int) < (l.length : Int) := by omega
        have HE' : Hid (rv l l.length = meas l) := by show _ = _; rw [HE, if_pos h0]; rfl
        clear HE hrow h0
        go_wp2
        go_ret
        exact ⟨ret_int' (by rw [HE'.out]), HB.out⟩
      · have h0' : (0 : Int) < (l.length : Int) := by omega
        rw [if_neg h0] at HE
        have cL := hrow.cell (show l.length - 1 < l.length by omega)
        cases hc : cAt l (l.length - 1) with
        | true =>
          rw [hc] at cL HE
          have HE' : Hid (rv l l.length = meas l) := by show _ = _; rw [HE]; rfl
          clear HE hrow h0 hc
          go_wp2
          go_ret
          exact ⟨ret_int' (by rw [HE'.out]), HB.out⟩
        | false =>
          rw [hc] at cL HE
          have HE' : Hid (rv l l.length = meas l + 1) := by show _ = _; rw [HE]; rfl
          clear HE hrow h0 hc
          go_wp2
          go_ret
          exact ⟨ret_int' (by rw [HE'.out]; omega), HB.out⟩

end Go.Proofs.Qxb6603282a
