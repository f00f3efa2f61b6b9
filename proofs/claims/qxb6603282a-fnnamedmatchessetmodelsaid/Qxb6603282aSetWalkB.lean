import Derived.Test.Qxb6603282aSetWalkA
namespace Go.Proofs.Qxb6603282a
open Go.RowKit

/-- 'names[:n]'. -/
theorem slice_upto {w : World} {p : Option Addr} {c N F : Nat} {ls : List (List UInt8)} (h : HN w p ls) (hN : N = ls.length) (hc : ls.length ≤ c) (hF : F ≤ ls.length) :
    ∃ q d, (∀ W, (Instr.slice 36 (.slice p N c) none (some (.int .i64 F)) none).run Try.prog W = .ok (.slice q F d) W) ∧ HN w q (ls.take F) := by
  have hs : (Try.prog.info? 28).map (·.size) = some 1 := by kernel_rfl
  obtain ⟨i0, hi, hz⟩ := Option.map_eq_some_iff.1 hs
  subst hN
  refine ⟨p, c, fun W => ?_, fun i hi => ?_⟩
  · have hF' : (0 : Int) ≤ (F : Int) ∧ (F : Int) ≤ c := by omega
    have ea : ∀ a : Addr, a.add 0 = a := fun a => by cases a; simp [Addr.add]
    simp [Instr.slice, run_underlying Try.underlying36, Instr.sliceBounds, Instr.sliceBound, asIntOf, hF', sizeOf, typeInfo, hi, ea]
    intro h
    omega
  · have hi' : i < ls.length := by simp at hi; omega
    obtain ⟨b, off, rfl, v, hcv, hv⟩ := h i hi'
    exact ⟨b, off, rfl, v, hcv, by simpa using hv⟩

/-- What ZZNamed does to a fresh object (no map yet). -/
def NilR (w : World) (base : Nat) (ls : List (List UInt8)) (nm : List UInt8) (n : Nat) (u' : Value) (d : Bool) (s' : Option Nat) (w' : World) : Prop :=
  (nm ∈ ls.drop n ∧ d = true ∧ s' = none ∧ ON w' base u' ls ∧ Below base w w') ∨
  (nm ∉ ls.drop n ∧ (ls.drop n).length < 16 ∧ d = false ∧ s' = none ∧ ON w' base u' (ls ++ [nm]) ∧ Below base w w') ∨
  (nm ∉ ls.drop n ∧ 16 ≤ (ls.drop n).length ∧ d = false ∧ ∃ sb, s' = some sb ∧ MB w' sb (ls.length + 1) (upd (setF (ls.drop n)).1 nm true) ((setF (ls.drop n)).2 + 1) ∧ ON w' base u' ls ∧ Below base w w')

theorem zz_nil {w : World} {base n : Nat} {u v : Value} {ls : List (List UInt8)} {nm : List UInt8} (hon : ON w base u ls) (hbase : base ≤ w.heap.size) (hsm : ls.length ≤ 1048576) (hz : lens ls ≤ 1048576) (hF : n ≤ ls.length)
    (hv : w.ownsRow base 5 1 v nm.length (bv nm)) (hnl : nm.length ≤ 1048576) :
    Calls Try.prog 27 #[.int .i64 n, .map none, v, u] w (ZPost (NilR w base ls nm n)) := by
  have hvb := HB.ofOwn hv
  obtain ⟨p, c, rfl, hn, hc, hm, _⟩ := hon.hn
  by_cases hmem : nm ∈ ls.drop n
  · refine (zz_list_hit (F := n) hn hc hm hF hvb hmem).mono ?_
    rintro e w' ⟨u', d, s', rfl, rfl, rfl, rfl, hb⟩
    exact ⟨_, _, _, rfl, .inl ⟨hmem, rfl, rfl, hon.below hb (Nat.le_refl _), hb.mono hbase⟩⟩
  · by_cases hsh : (ls.drop n).length < 16
    · refine (zz_list_add (F := n) hon hbase (by omega) hF hv hmem (by simpa using hsh)).mono ?_
      rintro e w' ⟨u', d, s', rfl, rfl, rfl, h1, hg⟩
      have hlt : ∀ k, (Value.slice p ls.length c).ownBlock = some k → base ≤ k := by
        obtain ⟨vs, h1, _⟩ := hon
        exact fun k hk => (h1.lt k hk).1
      exact ⟨_, _, _, rfl, .inr (.inl ⟨hmem, hsh, rfl, rfl, h1, (Below.refl base w).grown hg hbase hlt⟩)⟩
    · refine (zz_list_full (F := n) hn hc (by omega) (fun i hi => by have := le_lens hi; omega) hF hvb (by omega) hmem (by simpa using hsh)).mono ?_
      rintro e w' ⟨u', d, s', rfl, rfl, rfl, sb, rfl, hsb, hm1, hb⟩
      exact ⟨_, _, _, rfl, .inr (.inr ⟨hmem, by omega, rfl, sb, rfl, hm1, hon.below hb (Nat.le_refl _), hb.mono hbase⟩)⟩

set_option maxRecDepth 100000 in
set_option maxHeartbeats 4000000 in
theorem set_walk_nil {w : World} (F : Int) (p q r : Option Addr) (c d cr : Nat) {ks : List (List UInt8)} {vs : List Bool} {v : Value} {nm : List UInt8} {ls : List (List UInt8)} (hk : HK w p ks) (hvs : HV w q vs) (hv : HB w v nm) (hn : HN w r ls) (hcr : ls.length ≤ cr) :
    Calls Try.prog 7 #[.int .i64 F, .bool true, .slice p ks.length c, .slice q vs.length d, v, .slice r ls.length cr] w fun e w' => e = .returned (.bool true) ∧ Below w.heap.size w w' := by
  obtain ⟨pv, cv, hve⟩ := hv.shape
  subst hve
  go_enter Try.func7, Try.ntmps7
  go_wp2_with fail
  refine (bytesSet F true p q r c d cr hk hv hn).mono ?_
  rintro e w1 ⟨⟨b, rfl, hb⟩, rfl⟩
  cases b with
  | false =>
    clear hb hk hvs hv hn
    go_wp2
    go_ret
    exact ⟨rfl, Below.refl _ _⟩
  | true =>
    have hsz := hb rfl
    clear hb
    have g3 : ¬ (1048576 : Int) < (nm.length : Int) := by omega
    have g3d : decide ((1048576 : Int) < (nm.length : Int)) = false := by simp; omega
    by_cases h1 : (65536 : Int) < (ks.length : Int)
    · clear hk hvs hv hn
      go_wp2
      go_ret
      exact ⟨rfl, Below.refl _ _⟩
    · have h1d : decide ((65536 : Int) < (ks.length : Int)) = false := by simp; omega
      by_cases h2 : (65536 : Int) < (vs.length : Int)
      · clear hk hvs hv hn
        go_wp2
        go_ret
        exact ⟨rfl, Below.refl _ _⟩
      · have h2d : decide ((65536 : Int) < (vs.length : Int)) = false := by simp; omega
        by_cases h3 : (65536 : Int) < (ls.length : Int)
        · clear hk hvs hv hn
          go_wp2
          go_ret
          exact ⟨rfl, Below.refl _ _⟩
        · have h3d : decide ((65536 : Int) < (ls.length : Int)) = false := by simp; omega
          go_wp2_with fail
          refine (namedBytes p q r c d cr hk hv hn (by omega) (by omega) (by omega)).mono ?_
          rintro e w2 ⟨t, rfl, ht, rfl⟩
          by_cases h4 : (1048576 : Int) < (t : Int)
          · clear hk hvs hv hn
            go_wp2
            go_ret
            exact ⟨rfl, Below.refl _ _⟩
          · have h4d : decide ((1048576 : Int) < (t : Int)) = false := by simp; omega
            clear h1 h2 h3
            by_cases hF1 : F < 0
            · clear hk hvs hv hn
              go_wp2
              go_ret
              exact ⟨rfl, Below.refl _ _⟩
            by_cases hF2 : (ls.length : Int) < F
            · clear hk hvs hv hn
              go_wp2
              go_ret
              exact ⟨rfl, Below.refl _ _⟩
            obtain ⟨n, hnF⟩ : ∃ n : Nat, F = n := ⟨F.toNat, by omega⟩
            subst hnF
            have hFl : n ≤ ls.length := by omega
            have hF1d : decide ((n : Int) < 0) = false := by simp
            have hF2d : decide ((ls.length : Int) < (n : Int)) = false := by simp; omega
            clear hF1 hF2
            go_wp2_with fail
            refine (cloneBytes hv (by omega)).mono ?_
            rintro e w3 ⟨nv, rfl, hnv, hb3⟩
            have HNV : Hid (w3.ownsRow w2.heap.size 5 1 nv nm.length (bv nm)) := hnv
            have HB3 : Hid (Below w2.heap.size w2 w3) := hb3
            clear hnv hb3
            go_wp2_with fail
            refine (cloneNames r cr (hn.below HB3.out (Nat.le_refl _)) (by omega) (fun i hi => by have := le_lens hi; omega)).mono ?_
            rintro e w4 ⟨uv, rfl, hon, hb4⟩
            have hB4 : Below w2.heap.size w2 w4 := HB3.out.trans (hb4.mono HB3.out.size)
            have HCAL : Hid (Calls Try.prog 27 #[.int .i64 n, .map none, nv, uv] w4 (ZPost (NilR w4 w2.heap.size ls nm n))) := zz_nil (hon.mono HB3.out.size) hB4.size (by omega) (by omega) hFl (own_below HNV.out hb4 (Nat.le_refl _)) (by omega)
            have HB4 : Hid (Below w2.heap.size w2 w4) := hB4
            have HVB : Hid (HB w2 (.slice pv nm.length cv) nm) := hv
            have HNN : Hid (HN w2 r ls) := hn
            clear hon hb4 hB4 hk hvs hv hn HNV HB3
            go_wp2_with fail
            refine HCAL.out.mono ?_
            rintro e w6 ⟨u6, d6, s6, rfl, hR⟩
            have hb46 : Below w2.heap.size w4 w6 := by rcases hR with ⟨_, _, _, _, h⟩ | ⟨_, _, _, _, _, h⟩ | ⟨_, _, _, _, _, _, _, h⟩ <;> exact h
            have hb6 : Below w2.heap.size w2 w6 := HB4.out.trans hb46
            have hcon : (convert 28 9 (.slice pv nm.length cv)).run Try.prog w6 = .ok (.string (str nm)) w6 := (HVB.out.below hb6 (Nat.le_refl _)).convert
            obtain ⟨qg, dg, hsl, hg⟩ := slice_from (HNN.out.below hb6 (Nat.le_refl _)) hcr hFl
            have hmk := makeMap_hint
            have HR : Hid (NilR w4 w2.heap.size ls nm n u6 d6 s6 w6) := hR
            have HB6 : Hid (Below w2.heap.size w2 w6) := hb6
            obtain ⟨G, HG⟩ : ∃ G, Hid (G = ls.drop n) := ⟨_, rfl⟩
            have HL : Hid (G.length = ls.length - n) := by show G.length = _; rw [HG.out]; simp
            rw [← HG.out] at hg
            have HGN : Hid (HN w6 qg G) := hg
            have HZ : Hid (∀ i (h : i < G.length), G[i].length ≤ 1048576) := by
              intro i hi
              have hsub : ∀ x ∈ G, x ∈ ls := by rw [HG.out]; exact fun x hx => List.mem_of_mem_drop hx
              have := hsub _ (List.getElem_mem hi)
              obtain ⟨j, hj, e⟩ := List.getElem_of_mem this
              have := le_lens hj
              rw [e] at this
              omega
            clear hR hb46 hb6 hg
            go_wp2
            go_loopw [30] (fun i wr => ∃ k : Nat, k ≤ ls.length - n ∧ i = .int .i64 k ∧ MB wr w6.heap.size k (setF (G.take k)).1 (setF (G.take k)).2 ∧ Below w6.heap.size w6 wr) (fun i _ => (ls.length - n) - (intOf i).toNat)
            case atStart => exact ⟨0, Nat.zero_le _, rfl, MB.made w6, (Below.refl _ _).alloc (Nat.le_refl _) _⟩
            case round =>
              clear hcon
              obtain ⟨k, hk, rfl, hmb, hbel⟩ := hrel
              by_cases hlt : k < ls.length - n
              · have hkG : k < G.length := by rw [HL.out]; exact hlt
                obtain ⟨b, off, hp, u, hcu, hu⟩ := (HGN.out.below hbel (Nat.le_refl _)) k hkG
                subst hp
                have hcv : (convert 28 9 u).run Try.prog wr = .ok (.string (str G[k])) wr := hu.convert
                obtain ⟨w8, hrun, hmb8, hmt8⟩ := hmb.store (by unfold maxLen; omega) (l := G[k]) (by have := HZ.out k hkG; unfold maxLen; omega) true
                have HM8 : Hid (MB w8 w6.heap.size (k + 1) (setF (G.take (k + 1))).1 (setF (G.take (k + 1))).2) := by show MB _ _ _ _ _; rw [setF_take_succ hkG]; exact hmb8
                have HB8 : Hid (Below w6.heap.size w6 w8) := hbel.trans (hmt8.below (Nat.le_refl _))
                clear hmb hbel hu hmb8 hmt8
                go_wp2
                go_roundw
                case rel => exact ⟨k + 1, by omega, by go_num, HM8.out, HB8.out⟩
                case measure => simp [intOf]; omega
              · have ek : G.take k = G := List.take_of_length_le (by rw [HL.out]; omega)
                rw [ek] at hmb
                have hml : nm.length ≤ maxLen := by unfold maxLen; omega
                have HMB : Hid (MB wr w6.heap.size k (setF G).1 (setF G).2) := hmb
                have HBL : Hid (Below w6.heap.size w6 wr) := hbel
                have hlk := hmb.look hml
                rw [setF_get] at hlk
                have hqe := eqNil41
                have hqn := neqNil41
                clear ek hmb hbel
                rcases HR.out with ⟨hmem, hd, hs', hon6, _⟩ | ⟨hmem, hsh, hd, hs', hon6, _⟩ | ⟨hmem, hsh, hd, sb, hs', hmb6, hon6, _⟩
                · subst hd
                  subst hs'
                  rw [← HG.out] at hmem
                  rw [if_pos hmem] at hlk
                  have hlk' : (Instr.lookup 41 (.map (some w6.heap.size)) (.string (str nm)) false).run Try.prog wr = .ok (.bool true) wr := hlk
                  obtain ⟨pu, cu, hue, hnu, _, _, _⟩ := (hon6.below HBL.out (Nat.le_refl _)).hn
                  have hb2r : Below w2.heap.size w2 wr := HB6.out.trans (HBL.out.mono HB6.out.size)
                  have HB2R : Hid (Below w2.heap.size w2 wr) := hb2r
                  have HSN : Hid (Calls Try.prog 28 #[.slice pu ls.length cu, .slice r ls.length cr] wr fun e w' => e = .returned (.bool true) ∧ ∃ n, w' = wr.drewN n) := by
                    show Calls _ _ _ _ _
                    have := sameNames pu r cu cr hnu (HNN.out.below hb2r (Nat.le_refl _)) (by unfold maxLen; omega)
                    simpa using this
                  subst hue
                  clear hlk hmem hon6 hnu hb2r
                  go_wp2_with fail
                  refine HSN.out.mono ?_
                  rintro e w9 ⟨rfl, j9, hw9⟩
                  have HW9 : Hid (w9 = wr.drewN j9) := hw9
                  clear hw9
                  go_wp2
                  go_ret
                  exact ⟨rfl, by rw [HW9.out]; exact below_drewN' HB2R.out _⟩
                · subst hd
                  subst hs'
                  rw [← HG.out] at hmem
                  rw [if_neg hmem] at hlk
                  have hlk' : (Instr.lookup 41 (.map (some w6.heap.size)) (.string (str nm)) false).run Try.prog wr = .ok (.bool false) wr := hlk
                  have hsh' : ((ls.length - n : Nat) : Int) < 16 := by simp at hsh; omega
                  obtain ⟨pu, cu, hue, hnu, hcu, _, _⟩ := (hon6.below HBL.out (Nat.le_refl _)).hn
                  have hlen : (ls ++ [nm]).length = ls.length + 1 := by simp
                  rw [hlen] at hue
                  obtain ⟨qs, ds, hss, hns⟩ := slice_upto (F := ls.length) hnu hlen.symm hcu (by omega)
                  have htk : (ls ++ [nm]).take ls.length = ls := by simp
                  rw [htk] at hns
                  have hb2r : Below w2.heap.size w2 wr := HB6.out.trans (HBL.out.mono HB6.out.size)
                  have HB2R : Hid (Below w2.heap.size w2 wr) := hb2r
                  have HSN : Hid (Calls Try.prog 28 #[.slice qs ls.length ds, .slice r ls.length cr] wr fun e w' => e = .returned (.bool true) ∧ ∃ n, w' = wr.drewN n) := by
                    show Calls _ _ _ _ _
                    have := sameNames qs r ds cr hns (HNN.out.below hb2r (Nat.le_refl _)) (by unfold maxLen; omega)
                    simpa using this
                  obtain ⟨b', off', hpu, x5, hc5, hx5⟩ := hnu ls.length (by simp)
                  subst hpu
                  have HC5 : Hid (∀ j, (wr.drewN j).cell? ⟨b', off' + ls.length, none⟩ = some x5 ∧ HB (wr.drewN j) x5 nm ∧ HB (wr.drewN j) (.slice pv nm.length cv) nm ∧ Below w2.heap.size w2 (wr.drewN j)) := by
                    intro j
                    refine ⟨by simpa using hc5, ?_, (HVB.out.below hb2r (Nat.le_refl _)).drewN j, below_drewN' hb2r j⟩
                    have := hx5.drewN j
                    simpa using this
                  subst hue
                  clear hlk hmem hon6 hnu hb2r hns hc5 hx5 hsh
                  go_wp2_with fail
                  refine HSN.out.mono ?_
                  rintro e w9 ⟨rfl, j9, hw9⟩
                  have h9 := HC5.out j9
                  rw [← hw9] at h9
                  obtain ⟨c9, x9, v9, b9⟩ := h9
                  have HE : Hid (Calls Try.prog 29 #[x5, .slice pv nm.length cv] w9 fun e w' => e = .returned (.bool true) ∧ ∃ n, w' = w9.drewN n) := by
                    show Calls _ _ _ _ _
                    have := bytesEqual x9 v9
                    simpa using this
                  have HB9 : Hid (Below w2.heap.size w2 w9) := b9
                  clear hw9 x9 v9 b9
                  go_wp2_with fail
                  refine HE.out.mono ?_
                  rintro e w10 ⟨rfl, j10, hw10⟩
                  have HB10 : Hid (Below w2.heap.size w2 w10) := by show Below _ _ _; rw [hw10]; exact below_drewN' HB9.out _
                  clear hw10
                  go_wp2
                  go_ret
                  exact ⟨rfl, HB10.out⟩
                · subst hd
                  subst hs'
                  rw [← HG.out] at hmem
                  rw [if_neg hmem] at hlk
                  have hlk' : (Instr.lookup 41 (.map (some w6.heap.size)) (.string (str nm)) false).run Try.prog wr = .ok (.bool false) wr := hlk
                  have hsh' : ¬ ((ls.length - n : Nat) : Int) < 16 := by simp at hsh; omega
                  rw [← HG.out] at hmb6
                  have hmbr : MB wr sb (ls.length + 1) (upd (setF G).1 nm true) ((setF G).2 + 1) := hmb6.below HBL.out (Nat.le_refl _)
                  obtain ⟨pu, cu, hue, hnu, _, _, _⟩ := (hon6.below HBL.out (Nat.le_refl _)).hn
                  have hb2r : Below w2.heap.size w2 wr := HB6.out.trans (HBL.out.mono HB6.out.size)
                  have HSN : Hid (Calls Try.prog 28 #[.slice pu ls.length cu, .slice r ls.length cr] wr fun e w' => e = .returned (.bool true) ∧ ∃ n, w' = wr.drewN n) := by
                    show Calls _ _ _ _ _
                    have := sameNames pu r cu cr hnu (HNN.out.below hb2r (Nat.le_refl _)) (by unfold maxLen; omega)
                    simpa using this
                  have HALL : Hid (∀ j, MB (wr.drewN j) sb (ls.length + 1) (upd (setF G).1 nm true) ((setF G).2 + 1) ∧ MB (wr.drewN j) w6.heap.size k (setF G).1 (setF G).2 ∧ HN (wr.drewN j) qg G ∧ Below w2.heap.size w2 (wr.drewN j)) :=
                    fun j => ⟨hmbr.drewN j, HMB.out.drewN j, (HGN.out.below HBL.out (Nat.le_refl _)).drewN j, below_drewN' hb2r j⟩
                  subst hue
                  clear hlk hmem hon6 hnu hb2r hmb6 hmbr hsh
                  go_wp2_with fail
                  refine HSN.out.mono ?_
                  rintro e w9 ⟨rfl, j9, hw9⟩
                  have h9 := HALL.out j9
                  rw [← hw9] at h9
                  obtain ⟨m9, n9, g9, b9⟩ := h9
                  have hlk9 : (Instr.lookup 41 (.map (some sb)) (.string (str nm)) false).run Try.prog w9 = .ok (.bool true) w9 := by
                    have := m9.look hml
                    rw [upd_same] at this
                    exact this
                  have HM9 : Hid (MB w9 sb (ls.length + 1) (upd (setF G).1 nm true) ((setF G).2 + 1)) := m9
                  have HN9 : Hid (MB w9 w6.heap.size k (setF G).1 (setF G).2) := n9
                  have HG9 : Hid (HN w9 qg G) := g9
                  have HB9 : Hid (Below w2.heap.size w2 w9) := b9
                  clear hw9 m9 n9 g9 b9 hlk'
                  go_wp2
                  clear hlk9
                  go_loop [31] (fun i => ∃ j : Nat, j ≤ ls.length - n ∧ i = .int .i64 j) (fun i => (ls.length - n) - (intOf i).toNat)
                  case atStart => exact ⟨0, Nat.zero_le _, rfl⟩
                  case round =>
                    obtain ⟨j, hj, rfl⟩ := hrel
                    by_cases hltj : j < ls.length - n
                    · have hjG : j < G.length := by rw [HL.out]; exact hltj
                      obtain ⟨b, off, hp, u, hcu, hu⟩ := HG9.out j hjG
                      subst hp
                      have hcv : (convert 28 9 u).run Try.prog w9 = .ok (.string (str G[j])) w9 := hu.convert
                      have hlk : (Instr.lookup 41 (.map (some sb)) (.string (str G[j])) false).run Try.prog w9 = .ok (.bool true) w9 := by
                        have := HM9.out.look (l := G[j]) (by have := HZ.out j hjG; unfold maxLen; omega)
                        have hin : upd (setF G).1 nm true G[j] = some true := by
                          unfold upd
                          split
                          · rfl
                          · rw [setF_get, if_pos (List.getElem_mem hjG)]
                        rw [hin] at this
                        exact this
                      clear hu
                      go_wp2
                      go_round
                      case rel => exact ⟨j + 1, by omega, by go_num⟩
                      case measure => simp [intOf]; omega
                    · have l1 := fun ty => HM9.out.len ty
                      have l2 := fun ty => HN9.out.len ty
                      have hsl2 := HN9.out.size_le
                      generalize (setF G).2 = sz at *
                      go_wp2
                      go_ret
                      exact ⟨ret_bool (by first | rfl | simp), HB9.out⟩

end Go.Proofs.Qxb6603282a
