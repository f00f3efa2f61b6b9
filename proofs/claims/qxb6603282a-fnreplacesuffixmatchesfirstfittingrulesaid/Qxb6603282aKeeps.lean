import Derived.Test.Qxb6603282aStepB
import Derived.Test.Qxb6603282aReplace
namespace Go.Proofs.Qxb6603282a
open Go.RowKit
attribute [local go_sem] st_size st_toList st_get st_extract st_append

/-- ZZReplaceSuffix behind zzSplitRules. -/
theorem zzReplace {w0 w : World} {l : List UInt8} {mm : Int} {rs : List Rule} (h : SplitInv w0 rs rs.length w) (hl : 0 < l.length) (hl2 : l.length ≤ 1048576) (hrs : rs.length ≤ 1048576)
    (hz : ∀ r ∈ rs, r.2.1.length ≤ 1048576 ∧ r.2.2.length ≤ 1048576) :
    Calls Try.prog 18 #[.string (st l), .slice (some ⟨w0.heap.size, 0, none⟩) rs.length rs.length, .slice (some ⟨w0.heap.size + 1, 0, none⟩) rs.length rs.length, .slice (some ⟨w0.heap.size + 2, 0, none⟩) rs.length rs.length, .int .i64 mm] w
      fun e w' => e = .returned (.string (st (applyR l mm (byL rs l[l.length - 1])))) ∧ Below w.heap.size w w' := by
  obtain ⟨f, g, k, r1, r2, r3, hb, hall⟩ := h
  refine zzReplaceSuffix_of l _ _ _ mm hrs (fun i hi => ?_) (fun i hi => ?_) (fun i hi => ?_) (fun w' hs => replaceSuffix hs l hl hl2 hz hrs)
  · rw [r1.cell hi, (hall i hi hi).1]
  · rw [r2.cell hi, (hall i hi hi).2.1]
  · rw [r3.cell hi, (hall i hi hi).2.2]

/-- A word of too small a measure stays as it is. -/
theorem applyR_keeps {l : List UInt8} {mm : Int} (h : (meas l : Int) < mm) (R : List Rule) : applyR l mm R = l := by
  induction R with
  | nil => rfl
  | cons r R ih =>
    cases hs : suf l r.2.1 with
    | false => rw [applyR_miss hs]; exact ih
    | true =>
      have := meas_mono l (l.length - r.2.1.length)
      exact applyR_low hs (by omega)

theorem rules_small {rs : List Rule} (h : rlens rs ≤ 1048576) : ∀ r ∈ rs, r.2.1.length ≤ 1048576 ∧ r.2.2.length ≤ 1048576 := by
  intro r hr
  obtain ⟨i, hi, rfl⟩ := List.getElem_of_mem hr
  have := le_rlens hi
  omega

set_option maxRecDepth 100000 in
set_option maxHeartbeats 1000000 in
theorem keeps_walk {w : World} (l : List UInt8) (p : Option Addr) (c : Nat) (mm : Int) {rs : List Rule} (hx : HR w p rs) :
    Calls Try.prog 6 #[.string (st l), .slice p rs.length c, .int .i64 mm] w fun e w' => e = .returned (.bool true) ∧ Below w.heap.size w w' := by
  go_enter Try.func6, Try.ntmps6
  go_wp2_with fail
  refine (bytesKeeps l p c mm hx).mono ?_
  rintro e w1 ⟨⟨b, rfl, hb⟩, rfl⟩
  cases b with
  | false =>
    clear hb hx
    go_wp2
    go_ret
    exact ⟨rfl, Below.refl _ _⟩
  | true =>
    have hsz := hb rfl
    clear hb
    have g1 : ¬ (1048576 : Int) < (l.length : Int) := by omega
    by_cases h2 : (65536 : Int) < (rs.length : Int)
    · clear hx
      go_wp2
      go_ret
      exact ⟨rfl, Below.refl _ _⟩
    · go_wp2_with fail
      refine (rulesBytes l p c hx (by omega)).mono ?_
      rintro e w2 ⟨r1, rfl, hr1, rfl⟩
      by_cases h3 : (1048576 : Int) < (r1 : Int)
      · clear hx
        go_wp2
        go_ret
        exact ⟨rfl, Below.refl _ _⟩
      · by_cases h0 : l.length = 0
        · have h0' : ((l.length : Int) == 0) = true := by rw [h0]; rfl
          clear hx h0
          go_wp2
          go_ret
          exact ⟨rfl, Below.refl _ _⟩
        · have h0' : ((l.length : Int) == 0) = false := by rw [beq_eq_false_iff_ne]; omega
          have hl : 0 < l.length := by omega
          clear h0
          go_wp2_with fail
          refine (zzMeasureOf l _ (by unfold maxLen; omega)).mono ?_
          rintro e w3 ⟨rfl, rfl⟩
          have hml : meas l ≤ 1048576 := by have := meas_le l l.length (Nat.le_refl _); rw [List.take_length] at this; omega
          by_cases h4 : mm ≤ (meas l : Int)
          · clear hx
            go_wp2
            go_ret
            exact ⟨rfl, Below.refl _ _⟩
          · go_wp2_with fail
            refine (splitRules p c hx (by omega)).mono ?_
            rintro e w4 ⟨rfl, hsp⟩
            have hbe : Below w3.heap.size w3 w4 := by obtain ⟨_, _, _, _, _, _, h, _⟩ := hsp; exact h
            have HC := zzReplace (l := l) (mm := mm) hsp hl (by omega) (by omega) (rules_small (by omega))
            rw [applyR_keeps (by omega)] at HC
            have HC' : Hid (Calls Try.prog 18 #[.string (st l), .slice (some ⟨w3.heap.size, 0, none⟩) rs.length rs.length, .slice (some ⟨w3.heap.size + 1, 0, none⟩) rs.length rs.length, .slice (some ⟨w3.heap.size + 2, 0, none⟩) rs.length rs.length, .int .i64 mm] w4
              fun e w' => e = .returned (.string (st l)) ∧ Below w4.heap.size w4 w') := HC
            clear hx HC hsp
            go_wp2_with (go_at_call 18; refine HC'.out.mono ?_; rintro e w5 ⟨rfl, hb5⟩)
            go_ret
            exact ⟨ret_bool' (by simp), hbe.trans (hb5.mono hbe.size)⟩

end Go.Proofs.Qxb6603282a
