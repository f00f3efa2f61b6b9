import Derived.Test.Qxb6603282aModelB
import Derived.Test.Qxb6603282aKeeps
namespace Go.Proofs.Qxb6603282a
open Go.RowKit
attribute [local go_sem] st_size st_toList st_get st_extract st_append

theorem byL_cons_same {r : Rule} {rs : List Rule} : byL (r :: rs) r.1 = r :: byL rs r.1 := by simp [byL]
theorem byL_cons_other {r : Rule} {rs : List Rule} {c : UInt8} (h : (r.1 == c) = false) : byL (r :: rs) c = byL rs c := by simp [byL, h]

theorem u8_bne' (a b : UInt8) : ((a.toNat : Int) != (b.toNat : Int)) = !(a == b) := by
  rw [bne, u8_beq]

set_option maxRecDepth 100000 in
set_option maxHeartbeats 1000000 in
/-- zzModelReplace -/
theorem modelReplace {wa : World} (l : List UInt8) (p : Option Addr) (c : Nat) (mm : Int) {rs : List Rule} (hx : HR wa p rs) (hl : 0 < l.length) (hl2 : l.length ≤ 1048576) (hrs : rs.length ≤ 1048576)
    (hz : ∀ r ∈ rs, r.2.1.length ≤ 1048576 ∧ r.2.2.length ≤ 1048576) :
    Calls Try.prog 19 #[.string (st l), .slice p rs.length c, .int .i64 mm] wa fun e w' => e = .returned (.string (st (applyR l mm (byL rs l[l.length - 1])))) ∧ Below wa.heap.size wa w' := by
  have hlt1 : l.length - 1 < l.length := by omega
  obtain ⟨z, hzz⟩ : ∃ z, z = l[l.length - 1] := ⟨_, rfl⟩
  have HZZ : Hid (z = l[l.length - 1]) := hzz
  rw [← hzz]
  have hzc : (l[l.length - 1]).toNat = z.toNat := by rw [hzz]
  clear hzz
  go_enter Try.func19, Try.ntmps19
  go_wp2
  go_loopw [8] (fun i wr => ∃ k : Nat, k ≤ rs.length ∧ i = .int .i64 k ∧ applyR l mm (byL (rs.drop k) z) = applyR l mm (byL rs z) ∧ Below wa.heap.size wa wr) (fun i _ => rs.length - (intOf i).toNat)
  case atStart => exact ⟨0, Nat.zero_le _, rfl, rfl, Below.refl _ _⟩
  case round =>
    obtain ⟨k, hk, rfl, heq, hbel⟩ := hrel
    by_cases hlt : k < rs.length
    · obtain ⟨b, off, hp, c0, c1, c2⟩ := (hx.below hbel (Nat.le_refl _)) k hlt
      subst hp
      obtain ⟨r, hr⟩ : ∃ r, r = rs[k] := ⟨_, rfl⟩
      have hdr := drop_cons' hlt
      have hzk := hz _ (List.getElem_mem hlt)
      rw [← hr] at c0 c1 c2 hdr hzk
      rw [hdr] at heq
      have HB : Hid (Below wa.heap.size wa wr) := hbel
      have hsz := hbel.size
      have e1 : ((r.1.toNat : Int) != (z.toNat : Int)) = !(r.1 == z) := u8_bne' r.1 z
      clear hx hz hdr hr hbel
      cases hle : (r.1 == z) with
      | false =>
        rw [hle] at e1
        rw [byL_cons_other hle] at heq
        have HEQ : Hid (applyR l mm (byL (rs.drop (k + 1)) z) = applyR l mm (byL rs z)) := heq
        clear heq hle hzk
        go_wp2
        go_roundw
        case rel => exact ⟨k + 1, by omega, by go_num, HEQ.out, HB.out.alloc hsz _⟩
        case measure => simp [intOf]; omega
      | true =>
        rw [hle] at e1
        have hrz : r.1 = z := by simpa using hle
        rw [← hrz, byL_cons_same, hrz] at heq
        obtain ⟨R', hR'⟩ : ∃ R', R' = byL (rs.drop (k + 1)) z := ⟨_, rfl⟩
        have HR' : Hid (R' = byL (rs.drop (k + 1)) z) := hR'
        rw [← hR'] at heq
        clear hR' hle hrz
        have q1 := fun h => applyR_miss (l := l) (mm := mm) (r := r) (rs := R') h
        have q2 := fun h h2 => applyR_low (l := l) (mm := mm) (r := r) (rs := R') h h2
        have q3 := fun h h2 h3 h4 h5 => applyR_ion (l := l) (mm := mm) (r := r) (rs := R') h h2 h3 h4 h5
        have q4 := fun h h2 h3 => applyR_hit (l := l) (mm := mm) (r := r) (rs := R') h h2 h3
        simp only [heq] at q1 q2 q3 q4
        clear heq
        have HE1 : Hid (((r.1.toNat : Int) != (z.toNat : Int)) = !true) := e1
        generalize r.1.toNat = rn at *
        generalize r.2.1 = s1 at *
        generalize r.2.2 = s2 at *
        have hsl := hzk.1
        have hsr := hzk.2
        clear hzk
        have hcS := fun W => zzHasSuffix l s1 W (by unfold maxLen; omega) (by unfold maxLen; omega)
        cases hsuf : suf l s1 with
        | false =>
          have Q1 : Hid (applyR l mm (byL rs z) = applyR l mm R') := q1 hsuf
          rw [hsuf] at hcS
          have HCS : Hid (∀ W, Calls Try.prog 13 #[.string (st l), .string (st s1)] W fun e w' => e = .returned (.bool false) ∧ w' = W) := hcS
          clear q1 q2 q3 q4 hcS hsuf
          go_wp2_with (go_at_call 13; refine (HCS.out _).mono ?_; rintro e w1 ⟨rfl, rfl⟩)
          go_roundw
          case rel => exact ⟨k + 1, by omega, by go_num, by rw [← HR'.out]; exact Q1.out.symm, HB.out.alloc hsz _⟩
          case measure => simp [intOf]; omega
        | true =>
          have hle : s1.length ≤ l.length := by
            rcases Nat.lt_or_ge l.length s1.length with h | h
            · rw [suf_false h] at hsuf; cases hsuf
            · exact h
          rw [hsuf] at hcS
          have HCS : Hid (∀ W, Calls Try.prog 13 #[.string (st l), .string (st s1)] W fun e w' => e = .returned (.bool true) ∧ w' = W) := hcS
          have hleI : (s1.length : Int) ≤ (l.length : Int) := by omega
          have q2' := q2 hsuf
          have q3' := q3 hsuf
          have q4' := q4 hsuf
          clear q1 q2 q3 q4 hcS hsuf
          obtain ⟨t, HT⟩ : ∃ t, Hid (t = l.take (l.length - s1.length)) := ⟨_, rfl⟩
          simp only [← HT.out] at q2' q3' q4'
          have htl : t.length ≤ l.length := by rw [HT.out]; simp
          have HME : Hid (∀ W, Calls Try.prog 33 #[.string (st t)] W fun e w' => e = .returned (.int .i64 (meas t)) ∧ Below W.heap.size W w') := fun W => zzMeasure t W (by omega)
          have hmt : meas t ≤ 1048576 := by have := meas_le t t.length (Nat.le_refl _); rw [List.take_length] at this; omega
          have htk : l.take (l.length - s1.length) = t := HT.out.symm
          go_wp2_with fail
          refine (HCS.out _).mono ?_
          rintro e w1 ⟨rfl, hw1⟩
          have f1 : w1.cell? ⟨wr.heap.size, 1, none⟩ = some (.string (st s1)) := by rw [hw1]; simp
          have f2 : w1.cell? ⟨wr.heap.size, 2, none⟩ = some (.string (st s2)) := by rw [hw1]; simp
          have hs1 : w1.heap.size = wr.heap.size + 1 := by rw [hw1]; simp
          have HB1 : Hid (Below wa.heap.size wa w1) := by show Below _ _ _; rw [hw1]; exact HB.out.alloc hsz _
          have HS1 : Hid (w1.heap.size = wr.heap.size + 1) := hs1
          clear hw1 hs1 c0 c1 c2
          go_wp2_with fail
          refine (HME.out _).mono ?_
          rintro e w2 ⟨rfl, hb2⟩
          have k1 : w2.cell? ⟨wr.heap.size, 1, none⟩ = some (.string (st s1)) := (hb2.cell (p := ⟨wr.heap.size, 1, none⟩) (by have := HS1.out; simp; omega)).trans f1
          have k2 : w2.cell? ⟨wr.heap.size, 2, none⟩ = some (.string (st s2)) := (hb2.cell (p := ⟨wr.heap.size, 2, none⟩) (by have := HS1.out; simp; omega)).trans f2
          have HB2 : Hid (Below wa.heap.size wa w2) := HB1.out.trans (hb2.mono HB1.out.size)
          clear hb2 f1 f2 htk
          by_cases hlow : (meas t : Int) < mm
          · have Q2 : Hid (applyR l mm (byL rs z) = l) := q2' hlow
            clear q2' q3' q4'
            go_wp2
            go_ret
            exact ⟨ret_str Q2.out.symm, HB2.out⟩
          · have q3 := q3' (Int.not_lt.1 hlow)
            have q4 := q4' (Int.not_lt.1 hlow)
            clear q2' q3' q4'
            have hS := fun W => zzHasSuffix t [115] W (by unfold maxLen; omega) (by unfold maxLen; simp)
            have hT := fun W => zzHasSuffix t [116] W (by unfold maxLen; omega) (by unfold maxLen; simp)
            generalize suf t [115] = bs at *
            generalize suf t [116] = bt at *
            have HSS : Hid (∀ W, Calls Try.prog 13 #[.string (st t), .string (st [115])] W fun e w' => e = .returned (.bool bs) ∧ w' = W) := hS
            have HTT : Hid (∀ W, Calls Try.prog 13 #[.string (st t), .string (st [116])] W fun e w' => e = .returned (.bool bt) ∧ w' = W) := hT
            clear hS hT
            cases hion : (s1 == [105, 111, 110]) with
            | false =>
              have Q4 : Hid (applyR l mm (byL rs z) = t ++ s2) := q4 (.inl hion)
              clear q3 q4 HSS HTT
              go_wp2
              go_ret
              exact ⟨ret_str Q4.out.symm, HB2.out⟩
            | true =>
              have q3' := q3 hion
              cases bs with
              | true =>
                have Q4 : Hid (applyR l mm (byL rs z) = t ++ s2) := q4 (.inr (.inl rfl))
                clear q3 q4 HTT q3'
                go_wp2_with (go_at_call 13; refine (HSS.out _).mono ?_; rintro e w3 ⟨rfl, rfl⟩)
                go_ret
                exact ⟨ret_str Q4.out.symm, HB2.out⟩
              | false =>
                cases bt with
                | true =>
                  have Q4 : Hid (applyR l mm (byL rs z) = t ++ s2) := q4 (.inr (.inr rfl))
                  clear q3 q4 q3'
                  go_wp2_with fail
                  refine (HSS.out _).mono ?_
                  rintro e w3 ⟨rfl, rfl⟩
                  go_wp2_with fail
                  refine (HTT.out _).mono ?_
                  rintro e w3 ⟨rfl, rfl⟩
                  go_wp2
                  go_ret
                  exact ⟨ret_str Q4.out.symm, HB2.out⟩
                | false =>
                  have Q3 : Hid (applyR l mm (byL rs z) = l) := q3' rfl rfl
                  clear q3 q4 q3'
                  go_wp2_with fail
                  refine (HSS.out _).mono ?_
                  rintro e w3 ⟨rfl, rfl⟩
                  go_wp2_with fail
                  refine (HTT.out _).mono ?_
                  rintro e w3 ⟨rfl, rfl⟩
                  go_wp2
                  go_ret
                  exact ⟨ret_str Q3.out.symm, HB2.out⟩
    · have hdn : rs.drop k = [] := List.drop_eq_nil_of_le (by omega)
      rw [hdn] at heq
      have HEQ : Hid (l = applyR l mm (byL rs z)) := heq
      clear hx heq hdn
      go_wp2
      go_ret
      exact ⟨ret_str HEQ.out, hbel⟩

end Go.Proofs.Qxb6603282a
