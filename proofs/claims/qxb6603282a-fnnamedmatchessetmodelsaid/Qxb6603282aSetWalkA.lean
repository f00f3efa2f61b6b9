import Derived.Test.Qxb6603282aSetBytes
namespace Go.Proofs.Qxb6603282a
open Go.RowKit

theorem upd_idem {f : List UInt8 → Option Bool} {l : List UInt8} (h : (f l).getD false = true) : upd f l true = f := by
  funext x
  unfold upd
  split
  · rename_i e
    subst e
    cases hf : f x with
    | none => rw [hf] at h; cases h
    | some b => rw [hf] at h; simp at h; rw [h]
  · rfl

theorem cnt_hit {f : List UInt8 → Option Bool} {l : List UInt8} {s : Nat} (h : (f l).isSome = true) : cnt f l s = s := by simp [cnt, h]
theorem cnt_miss {f : List UInt8 → Option Bool} {l : List UInt8} {s : Nat} (h : (f l).isSome = false) : cnt f l s = s + 1 := by simp [cnt, h]

/-- ZZNamed on an object that keeps its names in a map. -/
theorem zz_seen {w : World} {sb n s : Nat} {F : Int} {f : List UInt8 → Option Bool} {nm : List UInt8} {v u : Value}
    (hm : MB w sb n f s) (hn : n < maxLen) (hv : HB w v nm) (hl : nm.length ≤ maxLen) :
    Calls Try.prog 27 #[.int .i64 F, .map (some sb), v, u] w (ZPost fun u' d s' w' => u' = u ∧ d = (f nm).getD false ∧ s' = some sb ∧ MB w' sb (n + 1) (upd f nm true) (cnt f nm s) ∧ w.grownBy w' (some sb)) := by
  cases hf : (f nm).getD false with
  | true =>
    refine (zz_seen_hit (F := F) (u := u) hm hv hl hf).mono ?_
    rintro e w' ⟨u', d, s', rfl, rfl, rfl, rfl, hb⟩
    refine ⟨_, _, _, rfl, rfl, rfl, rfl, ?_, ⟨hb.os, hb.tape, hb.output, hb.size, fun k hk _ => hb.block k hk⟩⟩
    have hs : (f nm).isSome = true := by
      cases hx : f nm with
      | none => rw [hx] at hf; cases hf
      | some _ => rfl
    rw [upd_idem hf, cnt_hit hs]
    exact (hm.below hb (Nat.le_refl _)).mono (by omega)
  | false =>
    refine (zz_seen_miss (F := F) (u := u) hm hn hv hl hf).mono ?_
    rintro e w' ⟨u', d, s', rfl, rfl, rfl, rfl, h1, h2⟩
    exact ⟨_, _, _, rfl, rfl, rfl, rfl, h1, h2⟩

theorem neqNil41 (w : World) (r : Option Nat) : (binOp .neq 41 (.map r) (.map none)).run Try.prog w = .ok (.bool (!r.isNone)) w :=
  run_neq_map_nil w 41 9 4 r Try.underlying41

set_option maxRecDepth 100000 in
set_option maxHeartbeats 4000000 in
theorem set_walk_seen {w : World} (F : Int) (p q r : Option Addr) (c d cr : Nat) {ks : List (List UInt8)} {vs : List Bool} {v : Value} {nm : List UInt8} {ls : List (List UInt8)} (hk : HK w p ks) (hvs : HV w q vs) (hv : HB w v nm) (hn : HN w r ls) :
    Calls Try.prog 7 #[.int .i64 F, .bool false, .slice p ks.length c, .slice q vs.length d, v, .slice r ls.length cr] w fun e w' => e = .returned (.bool true) ∧ Below w.heap.size w w' := by
  obtain ⟨pv, cv, hve⟩ := hv.shape
  subst hve
  go_enter Try.func7, Try.ntmps7
  go_wp2_with fail
  refine (bytesSet F false p q r c d cr hk hv hn).mono ?_
  rintro e w1 ⟨⟨b, rfl, hb⟩, rfl⟩
  cases b with
  | false =>
    clear hb hk hvs hv hn
    go_wp2
    go_ret
    exact ⟨rfl, Below.refl _ _⟩
  | true =>
    have hsz := hb rfl
    clear hb
    have g3 : ¬ (1048576 : Int) < (nm.length : Int) := by omega
    have g3d : decide ((1048576 : Int) < (nm.length : Int)) = false := by simp; omega
    by_cases h1 : (65536 : Int) < (ks.length : Int)
    · clear hk hvs hv hn
      go_wp2
      go_ret
      exact ⟨rfl, Below.refl _ _⟩
    · have h1d : decide ((65536 : Int) < (ks.length : Int)) = false := by simp; omega
      by_cases h2 : (65536 : Int) < (vs.length : Int)
      · clear hk hvs hv hn
        go_wp2
        go_ret
        exact ⟨rfl, Below.refl _ _⟩
      · have h2d : decide ((65536 : Int) < (vs.length : Int)) = false := by simp; omega
        by_cases h3 : (65536 : Int) < (ls.length : Int)
        · clear hk hvs hv hn
          go_wp2
          go_ret
          exact ⟨rfl, Below.refl _ _⟩
        · have h3d : decide ((65536 : Int) < (ls.length : Int)) = false := by simp; omega
          go_wp2_with fail
          refine (namedBytes p q r c d cr hk hv hn (by omega) (by omega) (by omega)).mono ?_
          rintro e w2 ⟨t, rfl, ht, rfl⟩
          by_cases h4 : (1048576 : Int) < (t : Int)
          · clear hk hvs hv hn
            go_wp2
            go_ret
            exact ⟨rfl, Below.refl _ _⟩
          · have h4d : decide ((1048576 : Int) < (t : Int)) = false := by simp; omega
            clear h1 h2 h3
            go_wp2_with fail
            refine (cloneBytes hv (by omega)).mono ?_
            rintro e w3 ⟨nv, rfl, hnv, hb3⟩
            have HNV : Hid (w3.ownsRow w2.heap.size 5 1 nv nm.length (bv nm)) := hnv
            have HB3 : Hid (Below w2.heap.size w2 w3) := hb3
            clear hnv hb3
            go_wp2_with fail
            refine (cloneNames r cr (hn.below HB3.out (Nat.le_refl _)) (by omega) (fun i hi => by have := le_lens hi; omega)).mono ?_
            rintro e w4 ⟨uv, rfl, hon, hb4⟩
            have hB4 : Below w2.heap.size w2 w4 := HB3.out.trans (hb4.mono HB3.out.size)
            have HNV4 : Hid (HB w4 nv nm) := HB.ofOwn (own_below HNV.out hb4 (Nat.le_refl _))
            have HON : Hid (ON w4 w3.heap.size uv ls) := hon
            have HB4 : Hid (Below w2.heap.size w2 w4) := hB4
            have HK4 : Hid (HK w4 p ks) := hk.below hB4 (Nat.le_refl _)
            have HV4 : Hid (HV w4 q vs) := hvs.below hB4 (Nat.le_refl _)
            have HVB : Hid (HB w2 (.slice pv nm.length cv) nm) := hv
            have HNN : Hid (HN w2 r ls) := hn
            have HKK : Hid (HK w2 p ks) := hk
            have HVV : Hid (HV w2 q vs) := hvs
            clear hon hb4 hB4 hk hvs hv hn HNV HB3
            go_wp2_with fail
            refine (buildSeen p q c d HK4.out HV4.out (by omega) (by omega)).mono ?_
            rintro e w5 ⟨rfl, hmb5, hb5⟩
            have HSOME : Hid (∀ k (h : k < ks.length), ((bld ks vs ks.length).1 ks[k]).isSome = true) := by
              intro k h
              have := bld_some ks vs ks.length h
              rwa [getD_eq h] at this
            have hsle := bld_le ks vs ks.length
            obtain ⟨f, hf⟩ : ∃ f, f = (bld ks vs ks.length).1 := ⟨_, rfl⟩
            obtain ⟨s, hs⟩ : ∃ s, s = (bld ks vs ks.length).2 := ⟨_, rfl⟩
            have HF : Hid (f = (bld ks vs ks.length).1 ∧ s = (bld ks vs ks.length).2) := ⟨hf, hs⟩
            rw [← hf, ← hs] at hmb5
            rw [← hf] at HSOME
            rw [← hs] at hsle
            clear hf hs
            have hml : nm.length ≤ maxLen := by unfold maxLen; omega
            have hcal := zz_seen (F := F) (u := uv) hmb5 (by unfold maxLen; omega) (HNV4.out.below hb5 (Nat.le_refl _)) hml
            have HCAL : Hid (Calls Try.prog 27 #[.int .i64 F, .map (some w4.heap.size), nv, uv] w5 (ZPost fun u' d s' w' => u' = uv ∧ d = (f nm).getD false ∧ s' = some w4.heap.size ∧ MB w' w4.heap.size (ks.length + 1) (upd f nm true) (cnt f nm s) ∧ w5.grownBy w' (some w4.heap.size))) := hcal
            have HB5 : Hid (Below w2.heap.size w2 w5) := HB4.out.trans (hb5.mono HB4.out.size)
            have HON5 : Hid (ON w5 w3.heap.size uv ls) := HON.out.below hb5 (Nat.le_refl _)
            have hm5 : Hid (∃ es c, w5.heap[w4.heap.size]? = some (.map es c)) := hmb5.isMap
            have hsz4 := HB4.out.size
            clear hcal hmb5 hb5 HK4 HV4 HON
            go_wp2_with fail
            refine HCAL.out.mono ?_
            rintro e w6 ⟨u6, d6, s6, rfl, rfl, rfl, rfl, hmb6, hg6⟩
            have ht6 : MT w5 w6 w4.heap.size := ⟨hg6, hm5.out⟩
            have HON6 : Hid (ON w6 w3.heap.size u6 ls) := turned_on HON5.out ht6
            have hb6 : Below w2.heap.size w2 w6 := HB5.out.trans (ht6.below hsz4)
            have HB6 : Hid (Below w2.heap.size w2 w6) := hb6
            have hcon : (convert 28 9 (.slice pv nm.length cv)).run Try.prog w6 = .ok (.string (str nm)) w6 := (HVB.out.below hb6 (Nat.le_refl _)).convert
            have HMB6 : Hid (MB w6 w4.heap.size (ks.length + 1) (upd f nm true) (cnt f nm s)) := hmb6
            have HK6 : Hid (HK w6 p ks) := HKK.out.below hb6 (Nat.le_refl _)
            have HV6 : Hid (HV w6 q vs) := HVV.out.below hb6 (Nat.le_refl _)
            clear ht6 hg6 hmb6 hb6 HON5
            go_wp2_with fail
            refine (buildSeen p q c d HK6.out HV6.out (by omega) (by omega)).mono ?_
            rintro e w7 ⟨rfl, hmb7, hb7⟩
            rw [← HF.out.1, ← HF.out.2] at hmb7
            have hmb6' := HMB6.out.below hb7 (Nat.le_refl _)
            have hb72 : Below w2.heap.size w2 w7 := HB6.out.trans (hb7.mono HB6.out.size)
            have hlk1 : (Instr.lookup 41 (.map (some w6.heap.size)) (.string (str nm)) true).run Try.prog w7 = .ok (.tuple #[.bool ((f nm).getD false), .bool (f nm).isSome]) w7 := hmb7.look_ok hml
            have hlk2 : (Instr.lookup 41 (.map (some w6.heap.size)) (.string (str nm)) false).run Try.prog w7 = .ok (.bool ((f nm).getD false)) w7 := hmb7.look hml
            obtain ⟨pu, cu, hue, hnu, _, _, _⟩ := (HON6.out.below hb7 (Nat.le_refl _)).hn
            have HSN : Hid (Calls Try.prog 28 #[.slice pu ls.length cu, .slice r ls.length cr] w7 fun e w' => e = .returned (.bool true) ∧ ∃ n, w' = w7.drewN n) := by
              show Calls _ _ _ _ _
              have := sameNames pu r cu cr hnu (HNN.out.below hb72 (Nat.le_refl _)) (by unfold maxLen; omega)
              simpa using this
            have HW8 : Hid (∀ j, MB (w7.drewN j) w4.heap.size (ks.length + 1) (upd f nm true) (cnt f nm s) ∧ MB (w7.drewN j) w6.heap.size ks.length f s ∧ Below w2.heap.size w2 (w7.drewN j)) :=
              fun j => ⟨hmb6'.drewN j, hmb7.drewN j, below_drewN' hb72 j⟩
            subst hue
            clear hmb7 hb7 hmb6' hb72 hnu HK6 HV6 hcon
            generalize hgD : (f nm).getD false = bD at *
            have HGD : Hid ((f nm).getD false = bD) := hgD
            clear hgD
            have hqe := eqNil41
            cases bD
            all_goals
              go_wp2_with fail
              refine HSN.out.mono ?_
              rintro e w8 ⟨rfl, j8, hw8⟩
              have hW8 := HW8.out j8
              rw [← hw8] at hW8
              clear hw8
              obtain ⟨hm1, hm2, hB8⟩ := hW8
              have hlk3 : (Instr.lookup 41 (.map (some w4.heap.size)) (.string (str nm)) false).run Try.prog w8 = .ok (.bool true) w8 := by
                have := hm1.look hml
                rw [upd_same] at this
                exact this
              have HM1 : Hid (MB w8 w4.heap.size (ks.length + 1) (upd f nm true) (cnt f nm s)) := hm1
              have HM2 : Hid (MB w8 w6.heap.size ks.length f s) := hm2
              have HB8 : Hid (Below w2.heap.size w2 w8) := hB8
              clear hm1 hm2 hB8 hlk1 hlk2
              go_wp2
              clear hlk3
              go_loop [23] (fun i => ∃ k : Nat, k ≤ ks.length ∧ i = .int .i64 k) (fun i => ks.length - (intOf i).toNat)
              case atStart => exact ⟨0, Nat.zero_le _, rfl⟩
              case round =>
                obtain ⟨k, hkl, rfl⟩ := hrel
                by_cases hlt : k < ks.length
                · obtain ⟨b, off, hp, hc⟩ := (HKK.out.below HB8.out (Nat.le_refl _)) k hlt
                  subst hp
                  have e1 := str_toList ks[k]
                  have e2 := str_toList nm
                  by_cases hke : ks[k] = nm
                  · have hbe : (ks[k] == nm) = true := by simpa using hke
                    clear hke
                    go_wp2
                    go_round
                    case rel => exact ⟨k + 1, by omega, by go_num⟩
                    case measure => simp [intOf]; omega
                  · have hbe : (ks[k] == nm) = false := by simpa using hke
                    have hkm : ks[k].length ≤ maxLen := by have := le_lens hlt; unfold maxLen; omega
                    have q1 : (Instr.lookup 41 (.map (some w4.heap.size)) (.string (str ks[k])) true).run Try.prog w8 = .ok (.tuple #[.bool ((f ks[k]).getD false), .bool true]) w8 := by
                      have := HM1.out.look_ok hkm
                      rw [upd_other true hke, HSOME.out k hlt] at this
                      exact this
                    have q2 : (Instr.lookup 41 (.map (some w6.heap.size)) (.string (str ks[k])) false).run Try.prog w8 = .ok (.bool ((f ks[k]).getD false)) w8 := HM2.out.look hkm
                    clear hke hkm
                    generalize (f ks[k]).getD false = bk at q1 q2
                    cases bk
                    all_goals
                      go_wp2
                      go_round
                      case rel => exact ⟨k + 1, by omega, by go_num⟩
                      case measure => simp [intOf]; omega
                · have l1 := fun ty => HM1.out.len ty
                  have l2 := fun ty => HM2.out.len ty
                  have hcb : cnt f nm s ≤ s + 1 := by unfold cnt; split <;> omega
                  cases hso : (f nm).isSome with
                  | true =>
                    have hce : cnt f nm s = s := cnt_hit hso
                    rw [hce] at l1
                    clear hce hcb
                    go_wp2
                    go_ret
                    exact ⟨ret_bool (by first | rfl | simp), HB8.out⟩
                  | false =>
                    have hce : cnt f nm s = s + 1 := cnt_miss hso
                    rw [hce] at l1
                    clear hce hcb
                    go_wp2
                    go_ret
                    exact ⟨ret_bool (by first | rfl | simp), HB8.out⟩

end Go.Proofs.Qxb6603282a
