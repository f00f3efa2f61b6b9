import Derived.Test.Qxb6603282aModelR
namespace Go.Proofs.Qxb6603282a
open Go.RowKit
attribute [local go_sem] st_size st_toList st_get st_extract st_append

set_option maxRecDepth 100000 in
set_option maxHeartbeats 1000000 in
theorem first_walk {w : World} (l : List UInt8) (p : Option Addr) (c : Nat) (mm : Int) {rs : List Rule} (hx : HR w p rs) :
    Calls Try.prog 5 #[.string (st l), .slice p rs.length c, .int .i64 mm] w fun e w' => e = .returned (.bool true) ∧ Below w.heap.size w w' := by
  go_enter Try.func5, Try.ntmps5
  go_wp2_with fail
  refine (bytesFirst l p c mm hx).mono ?_
  rintro e w1 ⟨⟨b, rfl, hb⟩, rfl⟩
  cases b with
  | false =>
    clear hb hx
    go_wp2
    go_ret
    exact ⟨rfl, Below.refl _ _⟩
  | true =>
    have hsz := hb rfl
    clear hb
    have g1 : ¬ (1048576 : Int) < (l.length : Int) := by omega
    by_cases h2 : (65536 : Int) < (rs.length : Int)
    · clear hx
      go_wp2
      go_ret
      exact ⟨rfl, Below.refl _ _⟩
    · go_wp2_with fail
      refine (rulesBytes l p c hx (by omega)).mono ?_
      rintro e w2 ⟨r1, rfl, hr1, rfl⟩
      by_cases h3 : (1048576 : Int) < (r1 : Int)
      · clear hx
        go_wp2
        go_ret
        exact ⟨rfl, Below.refl _ _⟩
      · by_cases h0 : l.length = 0
        · have h0' : ((l.length : Int) == 0) = true := by rw [h0]; rfl
          clear hx h0
          go_wp2
          go_ret
          exact ⟨rfl, Below.refl _ _⟩
        · have h0' : ((l.length : Int) == 0) = false := by rw [beq_eq_false_iff_ne]; omega
          have hl : 0 < l.length := by omega
          clear h0
          go_wp2_with fail
          refine (splitRules p c hx (by omega)).mono ?_
          rintro e w4 ⟨rfl, hsp⟩
          have hbe : Below w2.heap.size w2 w4 := by obtain ⟨_, _, _, _, _, _, h, _⟩ := hsp; exact h
          have HC := zzReplace (l := l) (mm := mm) hsp hl (by omega) (by omega) (rules_small (by omega))
          have HC' : Hid (Calls Try.prog 18 #[.string (st l), .slice (some ⟨w2.heap.size, 0, none⟩) rs.length rs.length, .slice (some ⟨w2.heap.size + 1, 0, none⟩) rs.length rs.length, .slice (some ⟨w2.heap.size + 2, 0, none⟩) rs.length rs.length, .int .i64 mm] w4
            fun e w' => e = .returned (.string (st (applyR l mm (byL rs l[l.length - 1])))) ∧ Below w4.heap.size w4 w') := HC
          have HX : Hid (HR w2 p rs) := hx
          have HBE : Hid (Below w2.heap.size w2 w4) := hbe
          clear hx HC hsp hbe
          go_wp2_with fail
          refine HC'.out.mono ?_
          rintro e w5 ⟨rfl, hb5⟩
          have hb25 : Below w2.heap.size w2 w5 := HBE.out.trans (hb5.mono HBE.out.size)
          have HM : Hid (Calls Try.prog 19 #[.string (st l), .slice p rs.length c, .int .i64 mm] w5 fun e w' => e = .returned (.string (st (applyR l mm (byL rs l[l.length - 1])))) ∧ Below w5.heap.size w5 w') :=
            modelReplace l p c mm (HX.out.below hb25 (Nat.le_refl _)) hl (by omega) (by omega) (rules_small (by omega))
          have HB25 : Hid (Below w2.heap.size w2 w5) := hb25
          clear hb5 hb25
          generalize applyR l mm (byL rs l[l.length - 1]) = o at *
          go_wp2_with fail
          refine HM.out.mono ?_
          rintro e w6 ⟨rfl, hb6⟩
          have HB26 : Hid (Below w2.heap.size w2 w6) := HB25.out.trans (hb6.mono HB25.out.size)
          clear hb6
          go_wp2
          go_ret
          exact ⟨ret_bool' (by simp), HB26.out⟩

end Go.Proofs.Qxb6603282a
