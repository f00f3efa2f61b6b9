import Derived.Test.Qxb6603282aStepA
namespace Go.Proofs.Qxb6603282a
open Go.RowKit
attribute [local go_sem] st_size st_toList st_get st_extract st_append

/-- What the first fitting rule makes of the word l, which ends in the letter under which the rules rs are filed. -/
def applyR (l : List UInt8) (mm : Int) : List Rule → List UInt8
  | [] => l
  | r :: rs =>
    if suf l r.2.1 then
      (if (meas (l.take (l.length - r.2.1.length)) : Int) < mm then l
       else if r.2.1 == [105, 111, 110] && !suf (l.take (l.length - r.2.1.length)) [115] && !suf (l.take (l.length - r.2.1.length)) [116] then l
       else l.take (l.length - r.2.1.length) ++ r.2.2)
    else applyR l mm rs

theorem applyR_miss {l : List UInt8} {mm : Int} {r : Rule} {rs : List Rule} (h : suf l r.2.1 = false) : applyR l mm (r :: rs) = applyR l mm rs := by simp [applyR, h]
theorem applyR_low {l : List UInt8} {mm : Int} {r : Rule} {rs : List Rule} (h : suf l r.2.1 = true) (h2 : (meas (l.take (l.length - r.2.1.length)) : Int) < mm) : applyR l mm (r :: rs) = l := by simp [applyR, h, h2]
theorem applyR_ion {l : List UInt8} {mm : Int} {r : Rule} {rs : List Rule} (h : suf l r.2.1 = true) (h2 : ¬ (meas (l.take (l.length - r.2.1.length)) : Int) < mm)
    (h3 : (r.2.1 == [105, 111, 110]) = true) (h4 : suf (l.take (l.length - r.2.1.length)) [115] = false) (h5 : suf (l.take (l.length - r.2.1.length)) [116] = false) : applyR l mm (r :: rs) = l := by simp [applyR, h, h2, h3, h4, h5]
theorem applyR_hit {l : List UInt8} {mm : Int} {r : Rule} {rs : List Rule} (h : suf l r.2.1 = true) (h2 : ¬ (meas (l.take (l.length - r.2.1.length)) : Int) < mm)
    (h3 : (r.2.1 == [105, 111, 110]) = false ∨ suf (l.take (l.length - r.2.1.length)) [115] = true ∨ suf (l.take (l.length - r.2.1.length)) [116] = true) : applyR l mm (r :: rs) = l.take (l.length - r.2.1.length) ++ r.2.2 := by
  rcases h3 with h3 | h3 | h3 <;> simp [applyR, h, h2, h3]

theorem pc_get {rs : List Rule} {i : Nat} (h : i < rs.length) : (pc rs)[i * 2]? = some (.string (st rs[i].2.1)) ∧ (pc rs)[i * 2 + 1]? = some (.string (st rs[i].2.2)) := by
  induction rs generalizing i with
  | nil => simp at h
  | cons r rs ih =>
    have e : pc (r :: rs) = .string (st r.2.1) :: .string (st r.2.2) :: pc rs := rfl
    rw [e]
    cases i with
    | zero => simp
    | succ i =>
      have := ih (i := i) (by simpa using h)
      have e2 : (i + 1) * 2 = i * 2 + 1 + 1 := by omega
      rw [e2]
      simpa using this

theorem add_none (b i : Nat) : (⟨b, 0, none⟩ : Addr).add i = ⟨b, i, none⟩ := by unfold Addr.add; split <;> simp_all

/-- The rules under a letter, read out of the step. -/
theorem rows_of {w wr : World} {mm : Int} {rs : List Rule} (h : StepInv w mm rs wr) (c : UInt8) :
    ∃ p cap, wr.cell? ⟨w.heap.size, c.toNat, none⟩ = some (.slice p (byL rs c).length cap) ∧ wr.cell? ⟨w.heap.size, 256, none⟩ = some (.int .i64 mm) ∧ w.heap.size < wr.heap.size ∧
      ∀ i (hi : i < (byL rs c).length), ∃ g, p = some ⟨g, 0, none⟩ ∧ g < wr.heap.size ∧ wr.cell? ⟨g, i * 2, none⟩ = some (.string (st (byL rs c)[i].2.1)) ∧ wr.cell? ⟨g, i * 2 + 1, none⟩ = some (.string (st (byL rs c)[i].2.2)) := by
  obtain ⟨F, h1, h2, h3, h4, h5⟩ := h
  have hc : c.toNat < 256 := c.toNat_lt
  have hcell := fun g => World.ownsRow.cells (h3 c) (g := g)
  have hlt := fun g => (h3 c).lt g
  have e256 := h1.cell (show 256 < 257 by omega)
  rw [h2] at e256
  have ec := h1.cell (show c.toNat < 257 by omega)
  obtain ⟨x1, x2⟩ := h3 c
  rcases x2 with ⟨hv, h0⟩ | ⟨g, cap, cur, hv, hg, hh, r⟩
  · rw [hv] at ec
    exact ⟨none, 0, by rw [ec, h0], e256, h1.lt, fun i hi => by omega⟩
  · rw [hv] at ec hcell hlt
    refine ⟨some ⟨g, 0, none⟩, cap, ec, e256, h1.lt, fun i hi => ⟨g, rfl, (hlt g rfl).2, ?_, ?_⟩⟩
    · have := hcell g rfl (i * 2) _ (pc_get hi).1
      rwa [add_none] at this
    · have := hcell g rfl (i * 2 + 1) _ (pc_get hi).2
      rwa [add_none] at this

theorem drop_cons' {R : List Rule} {k : Nat} (h : k < R.length) : R.drop k = R[k] :: R.drop (k + 1) := List.drop_eq_getElem_cons h

theorem ret_str {a b : List UInt8} (h : a = b) : Ending.returned (.string (st a)) = .returned (.string (st b)) := by rw [h]

set_option maxRecDepth 100000 in
set_option maxHeartbeats 1000000 in
theorem replaceSuffix {w wa : World} {mm : Int} {rs : List Rule} (h : StepInv w mm rs wa) (l : List UInt8) (hl : 0 < l.length) (hl2 : l.length ≤ 1048576) (hz : ∀ r ∈ rs, r.2.1.length ≤ 1048576 ∧ r.2.2.length ≤ 1048576) (hrs : rs.length ≤ 1048576) :
    Calls Try.prog 37 #[.string (st l), .pointer (some ⟨w.heap.size, 0, none⟩)] wa fun e w'' => e = .returned (.string (st (applyR l mm (byL rs l[l.length - 1])))) ∧ Below wa.heap.size wa w'' := by
  obtain ⟨p, cap, hcell, hmm, hnn, hrow⟩ := rows_of h l[l.length - 1]
  have hz' : ∀ r ∈ byL rs l[l.length - 1], r.2.1.length ≤ 1048576 ∧ r.2.2.length ≤ 1048576 := fun r hr => hz _ (List.mem_filter.1 hr).1
  have hRl : (byL rs l[l.length - 1]).length ≤ 1048576 := Nat.le_trans (byL_length_le _ _) hrs
  generalize byL rs l[l.length - 1] = R at *
  have hc : l[l.length - 1].toNat < 256 := l[l.length - 1].toNat_lt
  have hcI : (l[l.length - 1].toNat : Int) < 256 := by omega
  have hw1 : IntKind.i64.wrap ((l.length : Int) - 1) = ((l.length - 1 : Nat) : Int) := by
    rw [IntKind.wrap_i64]; omega
  have hlt1 : l.length - 1 < l.length := by omega
  have HZ : Hid (∀ i (hi : i < R.length), R[i].2.1.length ≤ 1048576 ∧ R[i].2.2.length ≤ 1048576) := fun i hi => hz' _ (List.getElem_mem hi)
  clear h hz hz'
  go_enter Try.func37, Try.ntmps37
  go_wp2
  go_quiet (fail)
  go_wp2
  go_loopw [19] (fun i wr => ∃ k : Nat, k ≤ R.length ∧ i = .int .i64 k ∧ applyR l mm (R.drop k) = applyR l mm R ∧ Below wa.heap.size wa wr) (fun i _ => R.length - (intOf i).toNat)
  case atStart => exact ⟨0, Nat.zero_le _, rfl, rfl, ⟨rfl, rfl, rfl, Nat.le_refl _, fun _ _ => rfl⟩⟩
  case round =>
    obtain ⟨k, hk, rfl, heq, hbel⟩ := hrel
    by_cases hlt : k < R.length
    · obtain ⟨g, hp, hg, c1, c2⟩ := hrow k hlt
      subst hp
      obtain ⟨r, hr⟩ : ∃ r, r = R[k] := ⟨_, rfl⟩
      have hdr := drop_cons' hlt
      have hzk := HZ.out k hlt
      rw [← hr] at c1 c2 hdr hzk
      rw [hdr] at heq
      have HEQ : Hid (applyR l mm (r :: R.drop (k + 1)) = applyR l mm R) := heq
      have d1 : wr.cell? ⟨g, k * 2, none⟩ = some (.string (st r.2.1)) := (hbel.cell (p := ⟨g, k * 2, none⟩) hg).trans c1
      have d2 : wr.cell? ⟨g, k * 2 + 1, none⟩ = some (.string (st r.2.2)) := (hbel.cell (p := ⟨g, k * 2 + 1, none⟩) hg).trans c2
      have d3 : ∀ o, (wr.alloc o).cell? ⟨w.heap.size, 256, none⟩ = some (.int .i64 mm) := fun o => by
        rw [World.cell?_alloc_lt _ _ _ (by have := hbel.size; simp; omega), hbel.cell (p := ⟨w.heap.size, 256, none⟩) hnn]; exact hmm
      have HB : Hid (Below wa.heap.size wa wr) := hbel
      have hsz := hbel.size
      clear hrow c1 c2 hdr heq hr hcell hmm hw1 hbel
      have q1 := fun h => applyR_miss (l := l) (mm := mm) (r := r) (rs := R.drop (k + 1)) h
      have q2 := fun h h2 => applyR_low (l := l) (mm := mm) (r := r) (rs := R.drop (k + 1)) h h2
      have q3 := fun h h2 h3 h4 h5 => applyR_ion (l := l) (mm := mm) (r := r) (rs := R.drop (k + 1)) h h2 h3 h4 h5
      have q4 := fun h h2 h3 => applyR_hit (l := l) (mm := mm) (r := r) (rs := R.drop (k + 1)) h h2 h3
      simp only [HEQ.out] at q1 q2 q3 q4
      generalize r.2.1 = s1 at *
      generalize r.2.2 = s2 at *
      have hsl := hzk.1
      have hsr := hzk.2
      have hcS := fun W => hasSuffix l s1 W (by unfold maxLen; omega) (by unfold maxLen; omega)
      cases hsuf : suf l s1 with
      | false =>
        have Q1 : Hid (applyR l mm R = applyR l mm (R.drop (k + 1))) := q1 hsuf
        rw [hsuf] at hcS
        have HCS : Hid (∀ W, Calls Try.prog 40 #[.string (st l), .string (st s1)] W fun e w' => e = .returned (.bool false) ∧ w' = W) := hcS
        clear q1 q2 q3 q4 hcS hsuf hzk
        go_wp2_with (go_at_call 40; refine (HCS.out _).mono ?_; rintro e w1 ⟨rfl, rfl⟩)
        go_roundw
        case rel => exact ⟨k + 1, by omega, by go_num, Q1.out.symm, HB.out.alloc hsz _⟩
        case measure => simp [intOf]; omega
      | true =>
        have hle : s1.length ≤ l.length := by
          rcases Nat.lt_or_ge l.length s1.length with h | h
          · rw [suf_false h] at hsuf; cases hsuf
          · exact h
        rw [hsuf] at hcS
        have HCS : Hid (∀ W, Calls Try.prog 40 #[.string (st l), .string (st s1)] W fun e w' => e = .returned (.bool true) ∧ w' = W) := hcS
        have hleI : (s1.length : Int) ≤ (l.length : Int) := by omega
        have q2' := q2 hsuf
        have q3' := q3 hsuf
        have q4' := q4 hsuf
        clear q1 q2 q3 q4 hcS hsuf
        obtain ⟨t, HT⟩ : ∃ t, Hid (t = l.take (l.length - s1.length)) := ⟨_, rfl⟩
        simp only [← HT.out] at q2' q3' q4'
        have htl : t.length ≤ l.length := by rw [HT.out]; simp
        have hme := fun W => measure t W (by unfold maxLen; omega)
        have HME : Hid (∀ W, Calls Try.prog 38 #[.string (st t)] W fun e w' => e = .returned (.int .i64 (meas t)) ∧ w' = W) := hme
        have hmt : meas t ≤ 1048576 := by have := meas_le t t.length (Nat.le_refl _); rw [List.take_length] at this; omega
        have htk : l.take (l.length - s1.length) = t := HT.out.symm
        clear hme
        go_wp2_with (go_at_call 40; refine (HCS.out _).mono ?_; rintro e w1 ⟨rfl, rfl⟩)
        obtain ⟨w1, hw1⟩ : ∃ w1, w1 = wr.alloc (.cells #[.string (st s1), .string (st s2)] 58) := ⟨_, rfl⟩
        rw [← hw1]
        have f1 : w1.cell? ⟨wr.heap.size, 0, none⟩ = some (.string (st s1)) := by rw [hw1]; simp
        have f2 : w1.cell? ⟨wr.heap.size, 1, none⟩ = some (.string (st s2)) := by rw [hw1]; simp
        have f3 : w1.cell? ⟨w.heap.size, 256, none⟩ = some (.int .i64 mm) := by rw [hw1]; exact d3 _
        have HB1 : Hid (Below wa.heap.size wa w1) := by show Below _ _ _; rw [hw1]; exact HB.out.alloc hsz _
        clear hw1 d3 d1 d2 htk
        go_quiet ((go_at_call 38; exact Calls.quiet_of_same (HME.out _)))
        obtain ⟨w2, hw2⟩ : ∃ w2, w2 = w1.drewN nq := ⟨_, rfl⟩
        rw [← hw2]
        have k1 : w2.cell? ⟨wr.heap.size, 0, none⟩ = some (.string (st s1)) := by rw [hw2]; simpa using f1
        have k2 : w2.cell? ⟨wr.heap.size, 1, none⟩ = some (.string (st s2)) := by rw [hw2]; simpa using f2
        have HB2 : Hid (Below wa.heap.size wa w2) := by show Below _ _ _; rw [hw2]; exact HB1.out.trans ⟨rfl, rfl, rfl, Nat.le_refl _, fun _ _ => rfl⟩
        clear hw2 f1 f2 f3
        by_cases hlow : (meas t : Int) < mm
        · have Q2 : Hid (applyR l mm R = l) := q2' hlow
          clear q2' q3' q4'
          go_wp2
          go_ret
          exact ⟨ret_str Q2.out.symm, HB2.out⟩
        · have q3 := q3' (Int.not_lt.1 hlow)
          have q4 := q4' (Int.not_lt.1 hlow)
          clear q2' q3' q4'
          have hS := fun W => hasSuffix t [115] W (by unfold maxLen; omega) (by unfold maxLen; simp)
          have hT := fun W => hasSuffix t [116] W (by unfold maxLen; omega) (by unfold maxLen; simp)
          generalize suf t [115] = bs at *
          generalize suf t [116] = bt at *
          have HSS : Hid (∀ W, Calls Try.prog 40 #[.string (st t), .string (st [115])] W fun e w' => e = .returned (.bool bs) ∧ w' = W) := hS
          have HTT : Hid (∀ W, Calls Try.prog 40 #[.string (st t), .string (st [116])] W fun e w' => e = .returned (.bool bt) ∧ w' = W) := hT
          clear hS hT
          cases hion : (s1 == [105, 111, 110]) with
          | false =>
            have Q4 : Hid (applyR l mm R = t ++ s2) := q4 (.inl hion)
            clear q3 q4 HSS HTT
            go_wp2
            go_ret
            exact ⟨ret_str Q4.out.symm, HB2.out⟩
          | true =>
            have q3' := q3 hion
            cases bs with
            | true =>
              have Q4 : Hid (applyR l mm R = t ++ s2) := q4 (.inr (.inl rfl))
              clear q3 q4 HTT q3'
              go_wp2_with (go_at_call 40; refine (HSS.out _).mono ?_; rintro e w3 ⟨rfl, rfl⟩)
              go_ret
              exact ⟨ret_str Q4.out.symm, HB2.out⟩
            | false =>
              cases bt with
              | true =>
                have Q4 : Hid (applyR l mm R = t ++ s2) := q4 (.inr (.inr rfl))
                clear q3 q4 q3'
                go_wp2_with fail
                refine (HSS.out _).mono ?_
                rintro e w3 ⟨rfl, rfl⟩
                go_wp2_with fail
                refine (HTT.out _).mono ?_
                rintro e w3 ⟨rfl, rfl⟩
                go_wp2
                go_ret
                exact ⟨ret_str Q4.out.symm, HB2.out⟩
              | false =>
                have Q3 : Hid (applyR l mm R = l) := q3' rfl rfl
                clear q3 q4 q3'
                go_wp2_with fail
                refine (HSS.out _).mono ?_
                rintro e w3 ⟨rfl, rfl⟩
                go_wp2_with fail
                refine (HTT.out _).mono ?_
                rintro e w3 ⟨rfl, rfl⟩
                go_wp2
                go_ret
                exact ⟨ret_str Q3.out.symm, HB2.out⟩
    · have hdn : R.drop k = [] := List.drop_eq_nil_of_le (by omega)
      rw [hdn] at heq
      have HEQ : Hid (l = applyR l mm R) := heq
      clear hrow heq hcell hmm hw1
      go_wp2
      go_ret
      exact ⟨ret_str HEQ.out, hbel⟩

end Go.Proofs.Qxb6603282a
