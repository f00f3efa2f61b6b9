import Derived.Test.Qxb6603282aPorterB
namespace Go.Proofs.Qxb6603282a
open Go.RowKit
attribute [local go_sem] st_size st_toList st_get st_extract st_append

/-- The mending of a stem behind ED or ING. -/
def mend (t : List UInt8) : List UInt8 :=
  if suf t [97, 116] || suf t [98, 108] || suf t [105, 122] then t ++ [101]
  else if dbl t then
    (if !(t.getD (t.length - 1) 0 == 108) && !(t.getD (t.length - 1) 0 == 115) && !(t.getD (t.length - 1) 0 == 122) then t.take (t.length - 1) else t)
  else if (meas t == 1) && cvc t then t ++ [101]
  else t
def fin (l t : List UInt8) : List UInt8 := if hasV t then mend t else l
/-- Step 1b. -/
def step1b (l : List UInt8) : List UInt8 :=
  if suf l [101, 101, 100] then (if 0 < meas (l.take (l.length - 3)) then l.take (l.length - 1) else l)
  else if suf l [101, 100] then fin l (l.take (l.length - 2))
  else if suf l [105, 110, 103] then fin l (l.take (l.length - 3))
  else l

theorem suf_len {l m : List UInt8} (h : suf l m = true) : m.length ≤ l.length := by
  rcases Nat.lt_or_ge l.length m.length with h' | h'
  · rw [suf_false h'] at h; cases h
  · exact h'

theorem hasV_pos {t : List UInt8} (h : hasV t = true) : 0 < t.length := by
  rcases Nat.eq_zero_or_pos t.length with h' | h'
  · rw [List.eq_nil_of_length_eq_zero h'] at h; cases h
  · exact h'

theorem ret_s {a b : List UInt8} (h : a = b) : Ending.returned (.string (st a)) = .returned (.string (st b)) := by rw [h]

set_option maxRecDepth 100000 in
set_option maxHeartbeats 2000000 in
/-- (porterWord).step1b -/
theorem step1bCalls (l : List UInt8) (w : World) (hl : l.length ≤ 1048576) :
    Calls Try.prog 32 #[.string (st l)] w fun e w' => e = .returned (.string (st (step1b l))) ∧ ∃ n, w' = w.drewN n := by
  go_enter Try.func32, Try.ntmps32
  go_wp2_with fail
  refine (hasSuffix l [101, 101, 100] _ (by unfold maxLen; omega) (by unfold maxLen; simp)).mono ?_
  rintro e w1 ⟨rfl, rfl⟩
  cases h1 : suf l [101, 101, 100] with
  | true =>
    have hlen : 3 ≤ l.length := suf_len h1
    have hI : (3 : Int) ≤ (l.length : Int) := by omega
    have HF : Hid (step1b l = if 0 < meas (l.take (l.length - 3)) then l.take (l.length - 1) else l) := by show _ = _; simp [step1b, h1]
    clear h1
    obtain ⟨t, ht⟩ : ∃ t, t = l.take (l.length - 3) := ⟨_, rfl⟩
    have htk : l.take (l.length - 3) = t := ht.symm
    have htl : t.length ≤ l.length := by rw [ht]; simp
    rw [← ht] at HF
    clear ht
    go_wp2_with fail
    refine (measure t _ (by unfold maxLen; omega)).mono ?_
    rintro e w2 ⟨rfl, rfl⟩
    clear htk
    by_cases hm : 0 < meas t
    · have hmI : (0 : Int) < (meas t : Int) := by omega
      have HO : Hid (step1b l = l.take (l.length - 1)) := by show _ = _; rw [HF.out, if_pos hm]
      clear HF
      go_wp2
      go_ret
      exact ⟨ret_s HO.out.symm, 0, rfl⟩
    · have hmI : ¬ (0 : Int) < (meas t : Int) := by omega
      have HO : Hid (step1b l = l) := by show _ = _; rw [HF.out, if_neg hm]
      clear HF
      go_wp2
      go_ret
      exact ⟨ret_s HO.out.symm, 0, rfl⟩
  | false =>
    go_wp2_with fail
    refine (hasSuffix l [101, 100] _ (by unfold maxLen; omega) (by unfold maxLen; simp)).mono ?_
    rintro e w1 ⟨rfl, rfl⟩
    cases h2 : suf l [101, 100] with
    | true =>
      have hlen : 2 ≤ l.length := suf_len h2
      have hI : (2 : Int) ≤ (l.length : Int) := by omega
      have HF0 : Hid (step1b l = fin l (l.take (l.length - 2))) := by show _ = _; simp [step1b, h1, h2]
      clear h1 h2
      obtain ⟨t, ht⟩ : ∃ t, t = l.take (l.length - 2) := ⟨_, rfl⟩
      have htk : l.take (l.length - 2) = t := ht.symm
      have htl : t.length ≤ l.length := by rw [ht]; simp
      have HF : Hid (step1b l = fin l t) := by show _ = _; rw [HF0.out, ht]
      clear ht HF0
      go_wp2_with fail
      refine (hasVowel t _ (by omega)).mono ?_
      rintro e w1 ⟨rfl, rfl⟩
      cases hv : hasV t with
      | false =>
        have HO : Hid (step1b l = l) := by show _ = _; rw [HF.out]; simp [fin, hv]
        clear hv
        go_wp2
        go_ret
        exact ⟨ret_s HO.out.symm, 0, rfl⟩
      | true =>
        have HO : Hid (step1b l = mend t) := by show _ = _; rw [HF.out]; simp [fin, hv]
        have htp : 0 < t.length := hasV_pos hv
        clear hv HF
        go_wp2_with fail
        refine (hasSuffix t [97, 116] _ (by unfold maxLen; omega) (by unfold maxLen; simp)).mono ?_
        rintro e w1 ⟨rfl, rfl⟩
        cases ha : suf t [97, 116] with
        | true =>
          have HO2 : Hid (step1b l = t ++ [101]) := by show _ = _; rw [HO.out]; simp [mend, ha]
          clear ha HO
          go_wp2
          go_ret
          exact ⟨ret_s HO2.out.symm, 0, rfl⟩
        | false =>
          go_wp2_with fail
          refine (hasSuffix t [98, 108] _ (by unfold maxLen; omega) (by unfold maxLen; simp)).mono ?_
          rintro e w1 ⟨rfl, rfl⟩
          cases hb : suf t [98, 108] with
          | true =>
            have HO2 : Hid (step1b l = t ++ [101]) := by show _ = _; rw [HO.out]; simp [mend, hb]
            clear ha hb HO
            go_wp2
            go_ret
            exact ⟨ret_s HO2.out.symm, 0, rfl⟩
          | false =>
            go_wp2_with fail
            refine (hasSuffix t [105, 122] _ (by unfold maxLen; omega) (by unfold maxLen; simp)).mono ?_
            rintro e w1 ⟨rfl, rfl⟩
            cases hc : suf t [105, 122] with
            | true =>
              have HO2 : Hid (step1b l = t ++ [101]) := by show _ = _; rw [HO.out]; simp [mend, hc]
              clear ha hb hc HO
              go_wp2
              go_ret
              exact ⟨ret_s HO2.out.symm, 0, rfl⟩
            | false =>
              have HO2 : Hid (step1b l = if dbl t then (if !(t.getD (t.length - 1) 0 == 108) && !(t.getD (t.length - 1) 0 == 115) && !(t.getD (t.length - 1) 0 == 122) then t.take (t.length - 1) else t) else if (meas t == 1) && cvc t then t ++ [101] else t) := by
                show _ = _; rw [HO.out]; simp [mend, ha, hb, hc]
              clear ha hb hc HO
              go_wp2_with fail
              refine (endsDouble t _ (by omega)).mono ?_
              rintro e w2 ⟨rfl, jq, hw2⟩
              have HW : Hid (∃ n, w2 = w1.drewN n) := ⟨jq, hw2⟩
              clear hw2
              cases hd : dbl t with
              | true =>
                have l1 : t.length - 1 < t.length := by omega
                have HO3 : Hid (step1b l = if !(t[t.length - 1] == 108) && !(t[t.length - 1] == 115) && !(t[t.length - 1] == 122) then t.take (t.length - 1) else t) := by
                  show _ = _; rw [HO2.out, hd, getD_last l1]; rfl
                have e108 : (((t[t.length - 1]).toNat : Int) != 108) = !(t[t.length - 1] == 108) := u8_bne _ 108 (by omega)
                have e115 : (((t[t.length - 1]).toNat : Int) != 115) = !(t[t.length - 1] == 115) := u8_bne _ 115 (by omega)
                have e122 : (((t[t.length - 1]).toNat : Int) != 122) = !(t[t.length - 1] == 122) := u8_bne _ 122 (by omega)
                clear hd HO2
                generalize (t[t.length - 1] == 108) = x1 at *
                generalize (t[t.length - 1] == 115) = x2 at *
                generalize (t[t.length - 1] == 122) = x3 at *
                cases x1 <;> cases x2 <;> cases x3
                all_goals
                  go_wp2
                  go_ret
                  exact ⟨ret_s (by rw [HO3.out]; simp), HW.out⟩
              | false =>
                have HO3 : Hid (step1b l = if (meas t == 1) && cvc t then t ++ [101] else t) := by
                  show _ = _; rw [HO2.out, hd]; rfl
                clear hd HO2
                have hmle : meas t ≤ t.length := by have := meas_le t t.length (Nat.le_refl _); rwa [List.take_length] at this
                go_wp2_with fail
                refine (measure t _ (by unfold maxLen; omega)).mono ?_
                rintro e w3 ⟨rfl, rfl⟩
                by_cases hm : meas t = 1
                · have hmb : ((meas t : Int) == 1) = true := by rw [hm]; rfl
                  cases hcv : cvc t with
                  | true =>
                    have HO4 : Hid (step1b l = t ++ [101]) := by show _ = _; rw [HO3.out, hm, hcv]; rfl
                    have hcc := endsCVC t w3 (by omega)
                    rw [hcv] at hcc
                    have HCC : Hid (Calls Try.prog 43 #[.string (st t)] w3 fun e w' => e = .returned (.bool true) ∧ w' = w3) := hcc
                    clear hcc hm HO3 hcv
                    go_wp2_with (go_at_call 43; refine HCC.out.mono ?_; rintro e w4 ⟨rfl, rfl⟩)
                    go_ret
                    exact ⟨ret_s HO4.out.symm, HW.out⟩
                  | false =>
                    have HO4 : Hid (step1b l = t) := by show _ = _; rw [HO3.out, hcv]; simp
                    have hcc := endsCVC t w3 (by omega)
                    rw [hcv] at hcc
                    have HCC : Hid (Calls Try.prog 43 #[.string (st t)] w3 fun e w' => e = .returned (.bool false) ∧ w' = w3) := hcc
                    clear hcc hm HO3 hcv
                    go_wp2_with (go_at_call 43; refine HCC.out.mono ?_; rintro e w4 ⟨rfl, rfl⟩)
                    go_ret
                    exact ⟨ret_s HO4.out.symm, HW.out⟩
                · have hmb : ((meas t : Int) == 1) = false := by rw [beq_eq_false_iff_ne]; omega
                  have HO4 : Hid (step1b l = t) := by show _ = _; rw [HO3.out]; simp [hm]
                  clear hm HO3
                  go_wp2
                  go_ret
                  exact ⟨ret_s HO4.out.symm, HW.out⟩
    | false =>
      go_wp2_with fail
      refine (hasSuffix l [105, 110, 103] _ (by unfold maxLen; omega) (by unfold maxLen; simp)).mono ?_
      rintro e w1 ⟨rfl, rfl⟩
      cases h3 : suf l [105, 110, 103] with
      | true =>
        have hlen : 3 ≤ l.length := suf_len h3
        have hI : (3 : Int) ≤ (l.length : Int) := by omega
        have HF0 : Hid (step1b l = fin l (l.take (l.length - 3))) := by show _ = _; simp [step1b, h1, h2, h3]
        clear h1 h2 h3
        obtain ⟨t, ht⟩ : ∃ t, t = l.take (l.length - 3) := ⟨_, rfl⟩
        have htk : l.take (l.length - 3) = t := ht.symm
        have htl : t.length ≤ l.length := by rw [ht]; simp
        have HF : Hid (step1b l = fin l t) := by show _ = _; rw [HF0.out, ht]
        clear ht HF0
        go_wp2_with fail
        refine (hasVowel t _ (by omega)).mono ?_
        rintro e w1 ⟨rfl, rfl⟩
        cases hv : hasV t with
        | false =>
          have HO : Hid (step1b l = l) := by show _ = _; rw [HF.out]; simp [fin, hv]
          clear hv
          go_wp2
          go_ret
          exact ⟨ret_s HO.out.symm, 0, rfl⟩
        | true =>
          have HO : Hid (step1b l = mend t) := by show _ = _; rw [HF.out]; simp [fin, hv]
          have htp : 0 < t.length := hasV_pos hv
          clear hv HF
          go_wp2_with fail
          refine (hasSuffix t [97, 116] _ (by unfold maxLen; omega) (by unfold maxLen; simp)).mono ?_
          rintro e w1 ⟨rfl, rfl⟩
          cases ha : suf t [97, 116] with
          | true =>
            have HO2 : Hid (step1b l = t ++ [101]) := by show _ = _; rw [HO.out]; simp [mend, ha]
            clear ha HO
            go_wp2
            go_ret
            exact ⟨ret_s HO2.out.symm, 0, rfl⟩
          | false =>
            go_wp2_with fail
            refine (hasSuffix t [98, 108] _ (by unfold maxLen; omega) (by unfold maxLen; simp)).mono ?_
            rintro e w1 ⟨rfl, rfl⟩
            cases hb : suf t [98, 108] with
            | true =>
              have HO2 : Hid (step1b l = t ++ [101]) := by show _ = _; rw [HO.out]; simp [mend, hb]
              clear ha hb HO
              go_wp2
              go_ret
              exact ⟨ret_s HO2.out.symm, 0, rfl⟩
            | false =>
              go_wp2_with fail
              refine (hasSuffix t [105, 122] _ (by unfold maxLen; omega) (by unfold maxLen; simp)).mono ?_
              rintro e w1 ⟨rfl, rfl⟩
              cases hc : suf t [105, 122] with
              | true =>
                have HO2 : Hid (step1b l = t ++ [101]) := by show _ = _; rw [HO.out]; simp [mend, hc]
                clear ha hb hc HO
                go_wp2
                go_ret
                exact ⟨ret_s HO2.out.symm, 0, rfl⟩
              | false =>
                have HO2 : Hid (step1b l = if dbl t then (if !(t.getD (t.length - 1) 0 == 108) && !(t.getD (t.length - 1) 0 == 115) && !(t.getD (t.length - 1) 0 == 122) then t.take (t.length - 1) else t) else if (meas t == 1) && cvc t then t ++ [101] else t) := by
                  show _ = _; rw [HO.out]; simp [mend, ha, hb, hc]
                clear ha hb hc HO
                go_wp2_with fail
                refine (endsDouble t _ (by omega)).mono ?_
                rintro e w2 ⟨rfl, jq, hw2⟩
                have HW : Hid (∃ n, w2 = w1.drewN n) := ⟨jq, hw2⟩
                clear hw2
                cases hd : dbl t with
                | true =>
                  have l1 : t.length - 1 < t.length := by omega
                  have HO3 : Hid (step1b l = if !(t[t.length - 1] == 108) && !(t[t.length - 1] == 115) && !(t[t.length - 1] == 122) then t.take (t.length - 1) else t) := by
                    show _ = _; rw [HO2.out, hd, getD_last l1]; rfl
                  have e108 : (((t[t.length - 1]).toNat : Int) != 108) = !(t[t.length - 1] == 108) := u8_bne _ 108 (by omega)
                  have e115 : (((t[t.length - 1]).toNat : Int) != 115) = !(t[t.length - 1] == 115) := u8_bne _ 115 (by omega)
                  have e122 : (((t[t.length - 1]).toNat : Int) != 122) = !(t[t.length - 1] == 122) := u8_bne _ 122 (by omega)
                  clear hd HO2
                  generalize (t[t.length - 1] == 108) = x1 at *
                  generalize (t[t.length - 1] == 115) = x2 at *
                  generalize (t[t.length - 1] == 122) = x3 at *
                  cases x1 <;> cases x2 <;> cases x3
                  all_goals
                    go_wp2
                    go_ret
                    exact ⟨ret_s (by rw [HO3.out]; simp), HW.out⟩
                | false =>
                  have HO3 : Hid (step1b l = if (meas t == 1) && cvc t then t ++ [101] else t) := by
                    show _ = _; rw [HO2.out, hd]; rfl
                  clear hd HO2
                  have hmle : meas t ≤ t.length := by have := meas_le t t.length (Nat.le_refl _); rwa [List.take_length] at this
                  go_wp2_with fail
                  refine (measure t _ (by unfold maxLen; omega)).mono ?_
                  rintro e w3 ⟨rfl, rfl⟩
                  by_cases hm : meas t = 1
                  · have hmb : ((meas t : Int) == 1) = true := by rw [hm]; rfl
                    cases hcv : cvc t with
                    | true =>
                      have HO4 : Hid (step1b l = t ++ [101]) := by show _ = _; rw [HO3.out, hm, hcv]; rfl
                      have hcc := endsCVC t w3 (by omega)
                      rw [hcv] at hcc
                      have HCC : Hid (Calls Try.prog 43 #[.string (st t)] w3 fun e w' => e = .returned (.bool true) ∧ w' = w3) := hcc
                      clear hcc hm HO3 hcv
                      go_wp2_with (go_at_call 43; refine HCC.out.mono ?_; rintro e w4 ⟨rfl, rfl⟩)
                      go_ret
                      exact ⟨ret_s HO4.out.symm, HW.out⟩
                    | false =>
                      have HO4 : Hid (step1b l = t) := by show _ = _; rw [HO3.out, hcv]; simp
                      have hcc := endsCVC t w3 (by omega)
                      rw [hcv] at hcc
                      have HCC : Hid (Calls Try.prog 43 #[.string (st t)] w3 fun e w' => e = .returned (.bool false) ∧ w' = w3) := hcc
                      clear hcc hm HO3 hcv
                      go_wp2_with (go_at_call 43; refine HCC.out.mono ?_; rintro e w4 ⟨rfl, rfl⟩)
                      go_ret
                      exact ⟨ret_s HO4.out.symm, HW.out⟩
                  · have hmb : ((meas t : Int) == 1) = false := by rw [beq_eq_false_iff_ne]; omega
                    have HO4 : Hid (step1b l = t) := by show _ = _; rw [HO3.out]; simp [hm]
                    clear hm HO3
                    go_wp2
                    go_ret
                    exact ⟨ret_s HO4.out.symm, HW.out⟩
      | false =>
        have HO : Hid (step1b l = l) := by show _ = _; simp [step1b, h1, h2, h3]
        clear h1 h2 h3
        go_wp2
        go_ret
        exact ⟨ret_s HO.out.symm, 0, rfl⟩

end Go.Proofs.Qxb6603282a
