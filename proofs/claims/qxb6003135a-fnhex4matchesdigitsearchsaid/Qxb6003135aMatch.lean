import Derived.Test.Qxb6003135aSearch
import Derived.Test.Qxb6003135aHex4
namespace Go.Proofs.Qxb6003135a
open Go.RowKit

theorem hid {p : Prop} (h : p) : Hid p := h

theorem good_want {l : List UInt8} {k : Nat} (hl : k < l.length) (hd : digits (l.take k) = true) (hn : (hv l[k]).isSome = true) :
    digits (l.take (k + 1)) = true ∧ ((acc (l.take k) : Nat) * 16 + ((hv l[k]).getD 0 : Nat) : Int) = (acc (l.take (k + 1)) : Nat) := by
  rw [digits_succ hl, acc_succ hl, hd, hn]
  refine ⟨rfl, ?_⟩
  omega

set_option maxHeartbeats 800000 in
set_option maxRecDepth 100000 in
theorem match_small (p : Option Addr) (n c : Nat) (l : List UInt8) (w : World) (hb : HB w (.slice p n c) l) (hs : l.length ≤ 1048576) :
    Calls Try.prog 3 #[.slice p n c] w fun e w' => e = .returned (.bool true) ∧ Below w.heap.size w w' := by
  obtain ⟨rfl, hm⟩ := hb.small
  have h1 : decide (l.length ≤ 1048576) = true := by simp [hs]
  have h2 : ¬ (l.length : Int) > 1048576 := by omega
  have HS : Hid (Calls Try.prog 6 #[.slice p l.length c] w fun e w' => e = .returned (.bool true) ∧ w' = w) := by
    have := small6 p l.length c w hm
    rw [h1] at this
    exact this
  have HC : Hid (Calls Try.prog 7 #[.slice p l.length c] w fun e w' => ∃ v', e = .returned v' ∧ HB w' v' l ∧ Below w.heap.size w w') := cloneBytes hb hs
  clear hb hm h1
  by_cases h4 : 4 ≤ l.length
  · have h5 : ¬ (l.length : Int) < 4 := by omega
    go_enter Try.func3, Try.ntmps3
    go_wp2_with (first
      | (go_at_call 6; refine HS.out.mono ?_; rintro e w1 ⟨rfl, rfl⟩)
      | (go_at_call 7; refine HC.out.mono ?_; rintro e w2 ⟨v', rfl, hb2, hbel⟩; obtain ⟨p2, c2, rfl⟩ := hb2.shape; have HX := hid (zzhex4 hb2); have HB2 := hid hb2.cells; have HL := hid hbel; clear hb2 hbel)
      | (go_at_call 8; refine HX.out.mono ?_; rintro e w3 ⟨rfl, rfl⟩))
    go_loopw [5, 6] (fun r i wr => ∃ k : Nat, k ≤ 4 ∧ i = .int .i64 k ∧ r = .int .i64 (acc (l.take k) : Nat) ∧ digits (l.take k) = true ∧ wr = w3) (fun _ i _ => 4 - (intOf i).toNat)
    case atStart => exact ⟨0, by omega, rfl, rfl, rfl, rfl⟩
    case round =>
      obtain ⟨k, hk, rfl, rfl, hd, rfl⟩ := hrel
      have HD : Hid (digits (l.take k) = true) := hd
      clear hd
      by_cases hlt : k < 4
      · have hl : k < l.length := by omega
        obtain ⟨b, off, rfl, hcell⟩ := HB2.out k hl
        have HDV := hid (digitValue l[k] wr)
        have ha := acc_lt l k
        have hp : 16 ^ k ≤ 16 ^ 3 := Nat.pow_le_pow_right (by omega) (by omega)
        have ha' : (acc (l.take k) : Int) < 4096 := by omega
        have hd16 : (((hv l[k]).getD 0 : Nat) : Int) < 16 := by have := hv_lt' l[k]; omega
        clear ha hp
        by_cases hs : (hv l[k]).isSome = true
        · have HG := hid (good_want hl HD.out hs)
          rw [hs] at HDV
          go_wp2_with (go_at_call 9; refine HDV.out.mono ?_; rintro e w4 ⟨rfl, rfl⟩)
          obtain ⟨g1, g2⟩ := HG.out
          go_roundw
          case rel => exact ⟨k + 1, by omega, by go_num, by rw [g2], g1, trivial⟩
          case measure => simp [intOf]; omega
        · have hn : hv l[k] = none := by simpa using hs
          obtain ⟨g1, g2⟩ := bad hlt h4 hn
          have hs' : (hv l[k]).isSome = false := by rw [hn]; rfl
          rw [hs'] at HDV
          rw [g1, g2]
          go_wp2_with (go_at_call 9; refine HDV.out.mono ?_; rintro e w4 ⟨rfl, rfl⟩)
          go_ret
          exact ⟨rfl, HL.out⟩
      · obtain rfl : k = 4 := by omega
        have hok : ok4 l = true := by simp [ok4, h4, HD.out]
        have hr : r4 l = acc (l.take 4) := by simp [r4, hok]
        have ha := acc_lt l 4
        have ha' : (acc (l.take 4) : Int) < 65536 := by omega
        have hw : wrap32 (acc (l.take 4) : Nat) = (acc (l.take 4) : Nat) := by unfold wrap32; omega
        clear ha
        rw [hok, hr]
        go_wp2
        go_ret
        exact ⟨rfl, HL.out⟩
  · have h5 : (l.length : Int) < 4 := by omega
    have hok : ok4 l = false := by simp [ok4, h4]
    have hr : r4 l = 0 := by simp [r4, hok]
    go_enter Try.func3, Try.ntmps3
    go_wp2_with (first
      | (go_at_call 6; refine HS.out.mono ?_; rintro e w1 ⟨rfl, rfl⟩)
      | (go_at_call 7; refine HC.out.mono ?_; rintro e w2 ⟨v', rfl, hb2, hbel⟩; obtain ⟨p2, c2, rfl⟩ := hb2.shape; have HX := hid (zzhex4 hb2); rw [hok, hr] at HX; have HL := hid hbel; clear hb2 hbel)
      | (go_at_call 8; refine HX.out.mono ?_; rintro e w3 ⟨rfl, rfl⟩))
    go_ret
    exact ⟨rfl, HL.out⟩

set_option maxHeartbeats 400000 in
theorem match_big (p : Option Addr) (n c : Nat) (w : World) (hm : n ≤ maxLen) (hs : ¬ n ≤ 1048576) :
    Calls Try.prog 3 #[.slice p n c] w fun e w' => e = .returned (.bool true) ∧ Below w.heap.size w w' := by
  have HS : Hid (Calls Try.prog 6 #[.slice p n c] w fun e w' => e = .returned (.bool false) ∧ w' = w) := by
    have h1 : decide (n ≤ 1048576) = false := by simp [hs]
    have := small6 p n c w hm
    rw [h1] at this
    exact this
  go_enter Try.func3, Try.ntmps3
  go_wp2_with (go_at_call 6; refine HS.out.mono ?_; rintro e w1 ⟨rfl, rfl⟩)
  go_ret
  exact ⟨rfl, Below.refl _ _⟩

/-- FnHex4MatchesDigitSearch returns true. -/
theorem match_walk {w : World} {p : Option Addr} {n c : Nat} {l : List UInt8} (hb : HB w (.slice p n c) l) :
    Calls Try.prog 3 #[.slice p n c] w fun e w' => e = .returned (.bool true) ∧ Below w.heap.size w w' := by
  by_cases hs : l.length ≤ 1048576
  · exact match_small p n c l w hb hs
  · have h := hb.small
    exact match_big p n c w h.2 (by omega)

end Go.Proofs.Qxb6003135a
