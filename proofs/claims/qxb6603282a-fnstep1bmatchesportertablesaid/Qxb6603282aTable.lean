import Derived.Test.Qxb6603282aModelC
import Derived.Test.Qxb6603282aOnlyCuts
namespace Go.Proofs.Qxb6603282a
open Go.RowKit
attribute [local go_sem] st_size st_toList st_get st_extract st_append

set_option maxRecDepth 100000 in
set_option maxHeartbeats 2000000 in
/-- zzModelStep1b -/
theorem modelStep1b (l : List UInt8) (w : World) (hl : l.length ≤ 1048576) :
    Calls Try.prog 11 #[.string (st l)] w fun e w' => e = .returned (.string (st (step1b l))) ∧ Below w.heap.size w w' := by
  go_enter Try.func11, Try.ntmps11
  go_wp2_with fail
  refine (zzHasSuffix l [101, 101, 100] _ (by unfold maxLen; omega) (by unfold maxLen; simp)).mono ?_
  rintro e w1 ⟨rfl, hw1⟩
  have HB1 : Hid (Below w.heap.size w w1) := by show Below _ _ _; rw [hw1]; exact Below.refl _ _
  clear hw1
  cases h1 : suf l [101, 101, 100] with
  | true =>
    have hlen : 3 ≤ l.length := suf_len h1
    have hI : (3 : Int) ≤ (l.length : Int) := by omega
    have HF : Hid (step1b l = if 0 < meas (l.take (l.length - 3)) then l.take (l.length - 1) else l) := by show _ = _; simp [step1b, h1]
    clear h1
    obtain ⟨t, ht⟩ : ∃ t, t = l.take (l.length - 3) := ⟨_, rfl⟩
    have htk : l.take (l.length - 3) = t := ht.symm
    have htl : t.length ≤ l.length := by rw [ht]; simp
    rw [← ht] at HF
    clear ht
    go_wp2_with fail
    refine (zzMeasure t _ (by omega)).mono ?_
    rintro e w2 ⟨rfl, hb2⟩
    have HB2 : Hid (Below w.heap.size w w2) := HB1.out.trans (hb2.mono HB1.out.size)
    clear htk hb2
    by_cases hm : 0 < meas t
    · have hmI : (0 : Int) < (meas t : Int) := by omega
      have HO : Hid (step1b l = l.take (l.length - 1)) := by show _ = _; rw [HF.out, if_pos hm]
      clear HF
      go_wp2
      go_ret
      exact ⟨ret_s HO.out.symm, HB2.out⟩
    · have hmI : ¬ (0 : Int) < (meas t : Int) := by omega
      have HO : Hid (step1b l = l) := by show _ = _; rw [HF.out, if_neg hm]
      clear HF
      go_wp2
      go_ret
      exact ⟨ret_s HO.out.symm, HB2.out⟩
  | false =>
    go_wp2_with fail
    refine (zzHasSuffix l [101, 100] _ (by unfold maxLen; omega) (by unfold maxLen; simp)).mono ?_
    rintro e wx ⟨rfl, rfl⟩
    cases h2 : suf l [101, 100] with
    | true =>
      have hlen : 2 ≤ l.length := suf_len h2
      have hI : (2 : Int) ≤ (l.length : Int) := by omega
      have HF0 : Hid (step1b l = fin l (l.take (l.length - 2))) := by show _ = _; simp [step1b, h1, h2]
      clear h1 h2
      obtain ⟨t, ht⟩ : ∃ t, t = l.take (l.length - 2) := ⟨_, rfl⟩
      have htk : l.take (l.length - 2) = t := ht.symm
      have htl : t.length ≤ l.length := by rw [ht]; simp
      have HF : Hid (step1b l = fin l t) := by show _ = _; rw [HF0.out, ht]
      clear ht HF0
      go_wp2_with fail
      refine (zzHasVowel t _ (by omega)).mono ?_
      rintro e w2 ⟨rfl, hb2⟩
      have HB2 : Hid (Below w.heap.size w w2) := HB1.out.trans (hb2.mono HB1.out.size)
      clear hb2
      cases hv : hasV t with
      | false =>
        have HO : Hid (step1b l = l) := by show _ = _; rw [HF.out]; simp [fin, hv]
        clear hv
        go_wp2
        go_ret
        exact ⟨ret_s HO.out.symm, HB2.out⟩
      | true =>
        have HO : Hid (step1b l = mend t) := by show _ = _; rw [HF.out]; simp [fin, hv]
        have htp : 0 < t.length := hasV_pos hv
        clear hv HF
        go_wp2_with fail
        refine (zzHasSuffix t [97, 116] _ (by unfold maxLen; omega) (by unfold maxLen; simp)).mono ?_
        rintro e w3 ⟨rfl, rfl⟩
        cases ha : suf t [97, 116] with
        | true =>
          have HO2 : Hid (step1b l = t ++ [101]) := by show _ = _; rw [HO.out]; simp [mend, ha]
          clear ha HO
          go_wp2
          go_ret
          exact ⟨ret_s HO2.out.symm, HB2.out⟩
        | false =>
          go_wp2_with fail
          refine (zzHasSuffix t [98, 108] _ (by unfold maxLen; omega) (by unfold maxLen; simp)).mono ?_
          rintro e w3 ⟨rfl, rfl⟩
          cases hb : suf t [98, 108] with
          | true =>
            have HO2 : Hid (step1b l = t ++ [101]) := by show _ = _; rw [HO.out]; simp [mend, hb]
            clear ha hb HO
            go_wp2
            go_ret
            exact ⟨ret_s HO2.out.symm, HB2.out⟩
          | false =>
            go_wp2_with fail
            refine (zzHasSuffix t [105, 122] _ (by unfold maxLen; omega) (by unfold maxLen; simp)).mono ?_
            rintro e w3 ⟨rfl, rfl⟩
            cases hc : suf t [105, 122] with
            | true =>
              have HO2 : Hid (step1b l = t ++ [101]) := by show _ = _; rw [HO.out]; simp [mend, hc]
              clear ha hb hc HO
              go_wp2
              go_ret
              exact ⟨ret_s HO2.out.symm, HB2.out⟩
            | false =>
              have HO2 : Hid (step1b l = if dbl t then (if !(t.getD (t.length - 1) 0 == 108) && !(t.getD (t.length - 1) 0 == 115) && !(t.getD (t.length - 1) 0 == 122) then t.take (t.length - 1) else t) else if (meas t == 1) && cvc t then t ++ [101] else t) := by
                show _ = _; rw [HO.out]; simp [mend, ha, hb, hc]
              clear ha hb hc HO
              go_wp2_with fail
              refine (zzEndsDouble t _ (by omega)).mono ?_
              rintro e w4 ⟨rfl, hb4⟩
              have HB4 : Hid (Below w.heap.size w w4) := HB2.out.trans (hb4.mono HB2.out.size)
              clear hb4
              cases hd : dbl t with
              | true =>
                have l1 : t.length - 1 < t.length := by omega
                have HO3 : Hid (step1b l = if !(t[t.length - 1] == 108) && !(t[t.length - 1] == 115) && !(t[t.length - 1] == 122) then t.take (t.length - 1) else t) := by
                  show _ = _; rw [HO2.out, hd, getD_last l1]; rfl
                have e108 : (((t[t.length - 1]).toNat : Int) != 108) = !(t[t.length - 1] == 108) := u8_bne _ 108 (by omega)
                have e115 : (((t[t.length - 1]).toNat : Int) != 115) = !(t[t.length - 1] == 115) := u8_bne _ 115 (by omega)
                have e122 : (((t[t.length - 1]).toNat : Int) != 122) = !(t[t.length - 1] == 122) := u8_bne _ 122 (by omega)
                clear hd HO2
                generalize (t[t.length - 1] == 108) = x1 at *
                generalize (t[t.length - 1] == 115) = x2 at *
                generalize (t[t.length - 1] == 122) = x3 at *
                cases x1 <;> cases x2 <;> cases x3
                all_goals
                  go_wp2
                  go_ret
                  exact ⟨ret_s (by rw [HO3.out]; simp), HB4.out⟩
              | false =>
                have HO3 : Hid (step1b l = if (meas t == 1) && cvc t then t ++ [101] else t) := by
                  show _ = _; rw [HO2.out, hd]; rfl
                clear hd HO2
                have hmle : meas t ≤ t.length := by have := meas_le t t.length (Nat.le_refl _); rwa [List.take_length] at this
                go_wp2_with fail
                refine (zzMeasure t _ (by omega)).mono ?_
                rintro e w5 ⟨rfl, hb5⟩
                have HB5 : Hid (Below w.heap.size w w5) := HB4.out.trans (hb5.mono HB4.out.size)
                clear hb5
                by_cases hm : meas t = 1
                · have hmb : ((meas t : Int) == 1) = true := by rw [hm]; rfl
                  have hcc := zzEndsCVC t w5 (by omega)
                  cases hcv : cvc t with
                  | true =>
                    have HO4 : Hid (step1b l = t ++ [101]) := by show _ = _; rw [HO3.out, hm, hcv]; rfl
                    rw [hcv] at hcc
                    have HCC : Hid (Calls Try.prog 36 #[.string (st t)] w5 fun e w' => e = .returned (.bool true) ∧ Below w5.heap.size w5 w') := hcc
                    clear hcc hm HO3 hcv
                    go_wp2_with fail
                    refine HCC.out.mono ?_
                    rintro e w6 ⟨rfl, hb6⟩
                    have HB6 : Hid (Below w.heap.size w w6) := HB5.out.trans (hb6.mono HB5.out.size)
                    clear hb6
                    go_wp2
                    go_ret
                    exact ⟨ret_s HO4.out.symm, HB6.out⟩
                  | false =>
                    have HO4 : Hid (step1b l = t) := by show _ = _; rw [HO3.out, hcv]; simp
                    rw [hcv] at hcc
                    have HCC : Hid (Calls Try.prog 36 #[.string (st t)] w5 fun e w' => e = .returned (.bool false) ∧ Below w5.heap.size w5 w') := hcc
                    clear hcc hm HO3 hcv
                    go_wp2_with fail
                    refine HCC.out.mono ?_
                    rintro e w6 ⟨rfl, hb6⟩
                    have HB6 : Hid (Below w.heap.size w w6) := HB5.out.trans (hb6.mono HB5.out.size)
                    clear hb6
                    go_wp2
                    go_ret
                    exact ⟨ret_s HO4.out.symm, HB6.out⟩
                · have hmb : ((meas t : Int) == 1) = false := by rw [beq_eq_false_iff_ne]; omega
                  have HO4 : Hid (step1b l = t) := by show _ = _; rw [HO3.out]; simp [hm]
                  clear hm HO3
                  go_wp2
                  go_ret
                  exact ⟨ret_s HO4.out.symm, HB5.out⟩
    | false =>
      go_wp2_with fail
      refine (zzHasSuffix l [105, 110, 103] _ (by unfold maxLen; omega) (by unfold maxLen; simp)).mono ?_
      rintro e wy ⟨rfl, rfl⟩
      cases h3 : suf l [105, 110, 103] with
      | true =>
        have hlen : 3 ≤ l.length := suf_len h3
        have hI : (3 : Int) ≤ (l.length : Int) := by omega
        have HF0 : Hid (step1b l = fin l (l.take (l.length - 3))) := by show _ = _; simp [step1b, h1, h2, h3]
        clear h1 h2 h3
        obtain ⟨t, ht⟩ : ∃ t, t = l.take (l.length - 3) := ⟨_, rfl⟩
        have htk : l.take (l.length - 3) = t := ht.symm
        have htl : t.length ≤ l.length := by rw [ht]; simp
        have HF : Hid (step1b l = fin l t) := by show _ = _; rw [HF0.out, ht]
        clear ht HF0
        go_wp2_with fail
        refine (zzHasVowel t _ (by omega)).mono ?_
        rintro e w2 ⟨rfl, hb2⟩
        have HB2 : Hid (Below w.heap.size w w2) := HB1.out.trans (hb2.mono HB1.out.size)
        clear hb2
        cases hv : hasV t with
        | false =>
          have HO : Hid (step1b l = l) := by show _ = _; rw [HF.out]; simp [fin, hv]
          clear hv
          go_wp2
          go_ret
          exact ⟨ret_s HO.out.symm, HB2.out⟩
        | true =>
          have HO : Hid (step1b l = mend t) := by show _ = _; rw [HF.out]; simp [fin, hv]
          have htp : 0 < t.length := hasV_pos hv
          clear hv HF
          go_wp2_with fail
          refine (zzHasSuffix t [97, 116] _ (by unfold maxLen; omega) (by unfold maxLen; simp)).mono ?_
          rintro e w3 ⟨rfl, rfl⟩
          cases ha : suf t [97, 116] with
          | true =>
            have HO2 : Hid (step1b l = t ++ [101]) := by show _ = _; rw [HO.out]; simp [mend, ha]
            clear ha HO
            go_wp2
            go_ret
            exact ⟨ret_s HO2.out.symm, HB2.out⟩
          | false =>
            go_wp2_with fail
            refine (zzHasSuffix t [98, 108] _ (by unfold maxLen; omega) (by unfold maxLen; simp)).mono ?_
            rintro e w3 ⟨rfl, rfl⟩
            cases hb : suf t [98, 108] with
            | true =>
              have HO2 : Hid (step1b l = t ++ [101]) := by show _ = _; rw [HO.out]; simp [mend, hb]
              clear ha hb HO
              go_wp2
              go_ret
              exact ⟨ret_s HO2.out.symm, HB2.out⟩
            | false =>
              go_wp2_with fail
              refine (zzHasSuffix t [105, 122] _ (by unfold maxLen; omega) (by unfold maxLen; simp)).mono ?_
              rintro e w3 ⟨rfl, rfl⟩
              cases hc : suf t [105, 122] with
              | true =>
                have HO2 : Hid (step1b l = t ++ [101]) := by show _ = _; rw [HO.out]; simp [mend, hc]
                clear ha hb hc HO
                go_wp2
                go_ret
                exact ⟨ret_s HO2.out.symm, HB2.out⟩
              | false =>
                have HO2 : Hid (step1b l = if dbl t then (if !(t.getD (t.length - 1) 0 == 108) && !(t.getD (t.length - 1) 0 == 115) && !(t.getD (t.length - 1) 0 == 122) then t.take (t.length - 1) else t) else if (meas t == 1) && cvc t then t ++ [101] else t) := by
                  show _ = _; rw [HO.out]; simp [mend, ha, hb, hc]
                clear ha hb hc HO
                go_wp2_with fail
                refine (zzEndsDouble t _ (by omega)).mono ?_
                rintro e w4 ⟨rfl, hb4⟩
                have HB4 : Hid (Below w.heap.size w w4) := HB2.out.trans (hb4.mono HB2.out.size)
                clear hb4
                cases hd : dbl t with
                | true =>
                  have l1 : t.length - 1 < t.length := by omega
                  have HO3 : Hid (step1b l = if !(t[t.length - 1] == 108) && !(t[t.length - 1] == 115) && !(t[t.length - 1] == 122) then t.take (t.length - 1) else t) := by
                    show _ = _; rw [HO2.out, hd, getD_last l1]; rfl
                  have e108 : (((t[t.length - 1]).toNat : Int) != 108) = !(t[t.length - 1] == 108) := u8_bne _ 108 (by omega)
                  have e115 : (((t[t.length - 1]).toNat : Int) != 115) = !(t[t.length - 1] == 115) := u8_bne _ 115 (by omega)
                  have e122 : (((t[t.length - 1]).toNat : Int) != 122) = !(t[t.length - 1] == 122) := u8_bne _ 122 (by omega)
                  clear hd HO2
                  generalize (t[t.length - 1] == 108) = x1 at *
                  generalize (t[t.length - 1] == 115) = x2 at *
                  generalize (t[t.length - 1] == 122) = x3 at *
                  cases x1 <;> cases x2 <;> cases x3
                  all_goals
                    go_wp2
                    go_ret
                    exact ⟨ret_s (by rw [HO3.out]; simp), HB4.out⟩
                | false =>
                  have HO3 : Hid (step1b l = if (meas t == 1) && cvc t then t ++ [101] else t) := by
                    show _ = _; rw [HO2.out, hd]; rfl
                  clear hd HO2
                  have hmle : meas t ≤ t.length := by have := meas_le t t.length (Nat.le_refl _); rwa [List.take_length] at this
                  go_wp2_with fail
                  refine (zzMeasure t _ (by omega)).mono ?_
                  rintro e w5 ⟨rfl, hb5⟩
                  have HB5 : Hid (Below w.heap.size w w5) := HB4.out.trans (hb5.mono HB4.out.size)
                  clear hb5
                  by_cases hm : meas t = 1
                  · have hmb : ((meas t : Int) == 1) = true := by rw [hm]; rfl
                    have hcc := zzEndsCVC t w5 (by omega)
                    cases hcv : cvc t with
                    | true =>
                      have HO4 : Hid (step1b l = t ++ [101]) := by show _ = _; rw [HO3.out, hm, hcv]; rfl
                      rw [hcv] at hcc
                      have HCC : Hid (Calls Try.prog 36 #[.string (st t)] w5 fun e w' => e = .returned (.bool true) ∧ Below w5.heap.size w5 w') := hcc
                      clear hcc hm HO3 hcv
                      go_wp2_with fail
                      refine HCC.out.mono ?_
                      rintro e w6 ⟨rfl, hb6⟩
                      have HB6 : Hid (Below w.heap.size w w6) := HB5.out.trans (hb6.mono HB5.out.size)
                      clear hb6
                      go_wp2
                      go_ret
                      exact ⟨ret_s HO4.out.symm, HB6.out⟩
                    | false =>
                      have HO4 : Hid (step1b l = t) := by show _ = _; rw [HO3.out, hcv]; simp
                      rw [hcv] at hcc
                      have HCC : Hid (Calls Try.prog 36 #[.string (st t)] w5 fun e w' => e = .returned (.bool false) ∧ Below w5.heap.size w5 w') := hcc
                      clear hcc hm HO3 hcv
                      go_wp2_with fail
                      refine HCC.out.mono ?_
                      rintro e w6 ⟨rfl, hb6⟩
                      have HB6 : Hid (Below w.heap.size w w6) := HB5.out.trans (hb6.mono HB5.out.size)
                      clear hb6
                      go_wp2
                      go_ret
                      exact ⟨ret_s HO4.out.symm, HB6.out⟩
                  · have hmb : ((meas t : Int) == 1) = false := by rw [beq_eq_false_iff_ne]; omega
                    have HO4 : Hid (step1b l = t) := by show _ = _; rw [HO3.out]; simp [hm]
                    clear hm HO3
                    go_wp2
                    go_ret
                    exact ⟨ret_s HO4.out.symm, HB5.out⟩
      | false =>
        have HO : Hid (step1b l = l) := by show _ = _; simp [step1b, h1, h2, h3]
        clear h1 h2 h3
        go_wp2
        go_ret
        exact ⟨ret_s HO.out.symm, HB1.out⟩

set_option maxHeartbeats 400000 in
theorem bytesTable (l : List UInt8) (w : World) :
    Calls Try.prog 9 #[.string (st l)] w fun e w' => e = .returned (.bool (decide (l.length ≤ 1048576))) ∧ w' = w := by
  by_cases h : l.length ≤ 1048576
  · have h' : ¬ (1048576 : Int) < (l.length : Int) := by omega
    rw [decide_eq_true h]
    go_enter Try.func9, Try.ntmps9
    go_wp2
    go_ret
    exact ⟨rfl, rfl⟩
  · have h' : (1048576 : Int) < (l.length : Int) := by omega
    rw [decide_eq_false h]
    go_enter Try.func9, Try.ntmps9
    go_wp2
    go_ret
    exact ⟨rfl, rfl⟩

set_option maxRecDepth 100000 in
set_option maxHeartbeats 1000000 in
theorem table_walk (l : List UInt8) (w : World) :
    Calls Try.prog 3 #[.string (st l)] w fun e w' => e = .returned (.bool true) ∧ Below w.heap.size w w' := by
  go_enter Try.func3, Try.ntmps3
  go_wp2_with fail
  refine (bytesTable l w).mono ?_
  rintro e w1 ⟨rfl, rfl⟩
  by_cases hl : l.length ≤ 1048576
  · have hd : decide (l.length ≤ 1048576) = true := decide_eq_true hl
    have hI : ¬ (1048576 : Int) < (l.length : Int) := by omega
    rw [hd]
    clear hd
    go_wp2_with fail
    refine (zzStep1b l _ hl).mono ?_
    rintro e w2 ⟨rfl, hw2⟩
    have HB : Hid (Below w1.heap.size w1 w2) := drewN_bel hw2
    clear hw2
    go_wp2_with fail
    refine (modelStep1b l _ hl).mono ?_
    rintro e w3 ⟨rfl, hb3⟩
    have HB3 : Hid (Below w1.heap.size w1 w3) := HB.out.trans (hb3.mono HB.out.size)
    clear hb3
    generalize step1b l = o
    go_wp2
    go_ret
    exact ⟨ret_bool' (by simp), HB3.out⟩
  · have hd : decide (l.length ≤ 1048576) = false := decide_eq_false hl
    rw [hd]
    clear hd
    go_wp2
    go_ret
    exact ⟨rfl, Below.refl _ _⟩

end Go.Proofs.Qxb6603282a
