import Derived.Test.Qxb6603282aScriptPlain
namespace Go.Proofs.Qxb6603282a
open Go.RowKit

/-- 'names[:n]'. -/
theorem slice_to {w : World} {p : Option Addr} {c N F : Nat} {ls : List (List UInt8)} (h : HN w p ls) (hN : N = ls.length) (hc : ls.length ≤ c) (hF : F ≤ ls.length) :
    ∃ q d, (∀ W, (Instr.slice 36 (.slice p N c) none (some (.int .i64 F)) none).run Try.prog W = .ok (.slice q F d) W) ∧ HN w q (ls.take F) := by
  have hs : (Try.prog.info? 28).map (·.size) = some 1 := by kernel_rfl
  obtain ⟨i0, hi, hz⟩ := Option.map_eq_some_iff.1 hs
  subst hN
  refine ⟨p, c, fun W => ?_, fun i hi => ?_⟩
  · have hF' : (0 : Int) ≤ (F : Int) ∧ (F : Int) ≤ c := by omega
    have ea : ∀ a : Addr, a.add 0 = a := fun a => by cases a; simp [Addr.add]
    simp [Instr.slice, run_underlying Try.underlying36, Instr.sliceBounds, Instr.sliceBound, asIntOf, hF', sizeOf, typeInfo, hi, ea]
    intro h
    omega
  · have hi' : i < ls.length := by simp at hi; omega
    obtain ⟨b, off, rfl, v, hcv, hv⟩ := h i hi'
    exact ⟨b, off, rfl, v, hcv, by simpa using hv⟩

/-- What holds at the head of round k of the first loop. -/
def SInv (w : World) (mb : Nat) (x y : List (List UInt8)) (k : Nat) (u : Value) (s : Option Nat) (wr : World) : Prop :=
  ON wr w.heap.size u (x ++ (uniq (y.take k)).take 16) ∧ SeenIs wr w.heap.size mb x.length s (uniq (y.take k)) ∧
  (∃ n s, n ≤ (uniq (y.take k)).length ∧ MB wr mb n (inF (uniq (y.take k))) s) ∧ Below w.heap.size w wr

theorem SInv.start {w w1 : World} {x y : List (List UInt8)} {u : Value} (h : ON w1 w.heap.size u x) (hb : Below w.heap.size w w1) :
    SInv w w1.heap.size x y 0 u none (w1.alloc (.map #[] 0)) := by
  have hb1 : Below w1.heap.size w1 (w1.alloc (.map #[] 0)) := (Below.refl _ _).alloc (Nat.le_refl _) _
  refine ⟨?_, .inl ⟨by simp [uniq], rfl⟩, ⟨0, 0, Nat.zero_le _, ?_⟩, hb.trans (hb1.mono hb.size)⟩
  · simpa [uniq] using h.below hb1 (Nat.le_refl _)
  · have := MB.made w1
    simpa [uniq, inF_nil] using this

theorem SInv.below {w wr w2 : World} {mb : Nat} {x y : List (List UInt8)} {k : Nat} {u : Value} {s : Option Nat} (h : SInv w mb x y k u s wr) (hb : Below wr.heap.size wr w2) : SInv w mb x y k u s w2 := by
  obtain ⟨h1, h2, ⟨n, s', h3, h4⟩, h5⟩ := h
  exact ⟨h1.below hb (Nat.le_refl _), h2.below hb (Nat.le_refl _), ⟨n, s', h3, h4.below hb (Nat.le_refl _)⟩, h5.trans (hb.mono h5.size)⟩

theorem SInv.call {w wr : World} {mb : Nat} {x y : List (List UInt8)} {k : Nat} {u v : Value} {s : Option Nat} (h : SInv w mb x y k u s wr) (hk : k < y.length) (hmb : w.heap.size ≤ mb)
    (hx : x.length + lens x + y.length + lens y ≤ 1048576) (hv : wr.ownsRow w.heap.size 5 1 v y[k].length (bv y[k])) :
    Calls Try.prog 27 #[.int .i64 x.length, .map s, v, u] wr (ZPost (RoundR w w.heap.size mb x (uniq (y.take k)) y[k])) := by
  obtain ⟨h1, h2, h3, h4⟩ := h
  have hz : ∀ (L : List (List UInt8)), lens L ≤ 1048576 → ∀ l ∈ L, l.length ≤ 2000000 := by
    intro L hL l hl
    obtain ⟨i, hi, rfl⟩ := List.getElem_of_mem hl
    have := le_lens hi
    omega
  have hu := uniq_length_le (y.take k)
  refine script_call (by omega) (by simp at hu; omega) (hz x (by omega)) (fun l hl => hz y (by omega) l (List.mem_of_mem_take (uniq_mem _ _ hl))) (hz y (by omega) _ (List.getElem_mem hk)) h1 h2 h3 hmb h4 h4.size hv

theorem SInv.hit {w w2 : World} {mb : Nat} {x y : List (List UInt8)} {k : Nat} {u : Value} {d : Bool} {s : Option Nat} (hk : k < y.length) (hm : y[k] ∈ uniq (y.take k))
    (h : RoundR w w.heap.size mb x (uniq (y.take k)) y[k] u d s w2) : d = true ∧ SInv w mb x y (k + 1) u s w2 ∧ (uniq (y.take (k + 1))).length = (uniq (y.take k)).length := by
  obtain ⟨h1, h2, h3, h4, h5⟩ := h
  unfold SInv
  rw [uniq_take_succ hk]
  rw [uniqStep_hit hm] at h2 h3 ⊢
  exact ⟨by rw [h1]; simp [hm], ⟨h2, h3, h4, h5⟩, rfl⟩

theorem SInv.miss {w w2 w3 : World} {mb n s1 : Nat} {x y : List (List UInt8)} {k : Nat} {u : Value} {d : Bool} {s : Option Nat} (hk : k < y.length) (hm : y[k] ∉ uniq (y.take k)) (hmb : w.heap.size ≤ mb)
    (h : RoundR w w.heap.size mb x (uniq (y.take k)) y[k] u d s w2) (hn : n ≤ (uniq (y.take k)).length) (hM : MB w3 mb (n + 1) (upd (inF (uniq (y.take k))) y[k] true) s1) (ht : MT w2 w3 mb) :
    SInv w mb x y (k + 1) u s w3 ∧ (uniq (y.take (k + 1))).length = (uniq (y.take k)).length + 1 := by
  obtain ⟨h1, h2, h3, h4, h5⟩ := h
  unfold SInv
  rw [uniq_take_succ hk]
  rw [uniqStep_miss hm] at h2 h3 ⊢
  rw [upd_inF] at hM
  exact ⟨⟨turned_on h2 ht, h3.turned ht, ⟨_, _, by simp; omega, hM⟩, h5.trans (ht.below hmb)⟩, by simp⟩

/-- The names that are kept are the first different ones. -/
theorem script_at {x y : List (List UInt8)} {j : Nat} (hj : j < y.length) (hnot : y[j] ∉ uniq (y.take j)) (h : x.length + (uniq (y.take j)).length < (x ++ (uniq y).take 16).length) :
    (x ++ (uniq y).take 16)[x.length + (uniq (y.take j)).length] = y[j] := by
  obtain ⟨t, ht⟩ := uniq_prefix y (j + 1)
  rw [uniq_take_succ hj, uniqStep_miss hnot] at ht
  rw [List.getElem_append_right (by omega)]
  simp only [Nat.add_sub_cancel_left, List.getElem_take]
  simp [ht]

set_option maxRecDepth 100000 in
set_option maxHeartbeats 2000000 in
theorem script_walk {w : World} (p q : Option Addr) (c d : Nat) {x y : List (List UInt8)} (hx : HN w p x) (hy : HN w q y) :
    Calls Try.prog 8 #[.slice p x.length c, .slice q y.length d] w fun e w' => e = .returned (.bool true) ∧ Below w.heap.size w w' := by
  go_enter Try.func8, Try.ntmps8
  go_wp2_with fail
  refine (bytesScript p q c d hx hy).mono ?_
  rintro e w1 ⟨⟨b, rfl, hb⟩, rfl⟩
  cases b with
  | false =>
    clear hb hx hy
    go_wp2
    go_ret
    exact ⟨rfl, Below.refl _ _⟩
  | true =>
    have hsz := hb rfl
    clear hb
    by_cases h1 : (65536 : Int) < (x.length : Int)
    · clear hx hy
      go_wp2
      go_ret
      exact ⟨rfl, Below.refl _ _⟩
    · by_cases h2 : (65536 : Int) < (y.length : Int)
      · clear hx hy
        go_wp2
        go_ret
        exact ⟨rfl, Below.refl _ _⟩
      · have hd1 : decide ((65536 : Int) < (x.length : Int)) = false := by simp; omega
        have hd2 : decide ((65536 : Int) < (y.length : Int)) = false := by simp; omega
        go_wp2_with fail
        refine (nestedBytes p c hx).mono ?_
        rintro e w2 ⟨r1, rfl, hr1, rfl⟩
        go_wp2_with fail
        refine (nestedBytes q d hy).mono ?_
        rintro e w3 ⟨r2, rfl, hr2, rfl⟩
        by_cases h3 : (1048576 : Int) < (r1 : Int) + (r2 : Int)
        · clear hx hy
          go_wp2
          go_ret
          exact ⟨rfl, Below.refl _ _⟩
        · have hd3 : decide ((1048576 : Int) < (r1 : Int) + (r2 : Int)) = false := by simp; omega
          clear h1 h2
          go_wp2_with fail
          refine (cloneNames p c hx (by omega) (fun i hi => by have := le_lens hi; omega)).mono ?_
          rintro e w4 ⟨v', rfl, hon, hb4⟩
          have HI : Hid (SInv w3 w4.heap.size x y 0 v' none (w4.alloc (.map #[] 0))) := SInv.start hon hb4
          have hmb := hb4.size
          obtain ⟨p4, c4, hv', _⟩ := hon.hn
          clear hon hb4
          have HV : Hid (v' = .slice p4 x.length c4) := hv'
          rw [hv']
          rw [hv'] at HI
          clear hv'
          have hmm := @run_makeMap Try.prog
          have HX : Hid (HN w3 p x) := hx
          have HY : Hid (HN w3 q y) := hy
          clear hx hy
          go_wp2
          go_loopw [5, 7, 9, 10] (fun u sv dn i wr => ∃ (k : Nat) (s' : Option Nat), k ≤ y.length ∧ i = .int .i64 k ∧ sv = .map s' ∧ dn = .int .i64 ((uniq (y.take k)).length : Nat) ∧ SInv w3 w4.heap.size x y k u s' wr) (fun _ _ _ i _ => y.length - (intOf i).toNat)
          case atStart => exact ⟨0, none, Nat.zero_le _, rfl, rfl, rfl, HI.out⟩
          case round =>
            clear HI
            obtain ⟨k, s', hk, rfl, rfl, rfl, hinv⟩ := hrel
            have HINV : Hid (SInv w3 w4.heap.size x y k u5 s' wr) := hinv
            have hbw : Below w3.heap.size w3 wr := hinv.2.2.2
            have HBW : Hid (Below w3.heap.size w3 wr) := hbw
            have hul : (uniq (y.take k)).length ≤ k := Nat.le_trans (uniq_length_le _) (by simp; omega)
            by_cases hlt : k < y.length
            · obtain ⟨b, off, hq, v, hcv3, hv3⟩ := HY.out k hlt
              subst hq
              have hblt : b < w3.heap.size := World.block_lt_of_cell? w3 _ hcv3
              have hcv : wr.cell? ⟨b, off + k, none⟩ = some v := (hbw.cell (p := ⟨b, off + k, none⟩) hblt).trans hcv3
              have HCV3 : Hid (w3.cell? ⟨b, off + k, none⟩ = some v) := hcv3
              have HV3 : Hid (HB w3 v y[k]) := hv3
              have hyk := le_lens hlt
              have HC : Hid (Calls Try.prog 24 #[v] wr fun e w' => ∃ v', e = .returned v' ∧ w'.ownsRow wr.heap.size 5 1 v' y[k].length (bv y[k]) ∧ Below wr.heap.size wr w') := cloneBytes (hv3.below hbw (Nat.le_refl _)) (by omega)
              clear hinv hbw hcv3 hv3
              go_wp2_with fail
              refine HC.out.mono ?_
              rintro e w5 ⟨v5, rfl, ho5, hb5⟩
              have hcal := (HINV.out.below hb5).call hlt hmb hsz (own_mono ho5 HBW.out.size)
              have HCAL : Hid (Calls Try.prog 27 #[.int .i64 x.length, .map s', v5, u5] w5 (ZPost (RoundR w3 w3.heap.size w4.heap.size x (uniq (y.take k)) y[k]))) := hcal
              clear ho5 hb5 hcv hcal
              go_wp2_with fail
              refine HCAL.out.mono ?_
              rintro e w6 ⟨u6, d6, s6, rfl, hR⟩
              have hb6 : Below w3.heap.size w3 w6 := hR.2.2.2.2
              have hcv6 : w6.cell? ⟨b, off + k, none⟩ = some v := (hb6.cell (p := ⟨b, off + k, none⟩) hblt).trans HCV3.out
              have hcon : (convert 28 9 v).run Try.prog w6 = .ok (.string (str y[k])) w6 := (HV3.out.below hb6 (Nat.le_refl _)).convert
              have hml : y[k].length ≤ maxLen := by unfold maxLen; omega
              obtain ⟨n6, m6, hn6, hMB6⟩ := hR.2.2.2.1
              by_cases hmem : y[k] ∈ uniq (y.take k)
              · obtain ⟨hd6, hS, hU⟩ := SInv.hit hlt hmem hR
                subst hd6
                have hlk : (Instr.lookup 41 (.map (some w4.heap.size)) (.string (str y[k])) false).run Try.prog w6 = .ok (.bool true) w6 := by
                  have := hMB6.look hml
                  rw [inF_getD] at this
                  simpa [hmem] using this
                have HS : Hid (SInv w3 w4.heap.size x y (k + 1) u6 s6 w6 ∧ (uniq (y.take (k + 1))).length = (uniq (y.take k)).length) := ⟨hS, hU⟩
                clear hR hb6 hMB6 hmem hS hU hml hn6 hyk
                go_wp2
                go_roundw
                case rel => exact ⟨k + 1, s6, by omega, by go_num, rfl, by rw [HS.out.2], HS.out.1⟩
                case measure => simp [intOf]; omega
              · have hd6 : d6 = false := by rw [hR.1]; simp [hmem]
                subst hd6
                have hlk : (Instr.lookup 41 (.map (some w4.heap.size)) (.string (str y[k])) false).run Try.prog w6 = .ok (.bool false) w6 := by
                  have := hMB6.look hml
                  rw [inF_getD] at this
                  simpa [hmem] using this
                obtain ⟨w7, hrun, hMB7, hMT7⟩ := hMB6.store (by unfold maxLen; omega) hml true
                obtain ⟨hS, hU⟩ := SInv.miss hlt hmem hmb hR hn6 hMB7 hMT7
                have HS : Hid (SInv w3 w4.heap.size x y (k + 1) u6 s6 w7 ∧ (uniq (y.take (k + 1))).length = (uniq (y.take k)).length + 1) := ⟨hS, hU⟩
                clear hR hb6 hMB6 hmem hS hU hMB7 hMT7 hml hn6 hyk
                go_wp2
                go_roundw
                case rel => exact ⟨k + 1, s6, by omega, by go_num, rfl, by rw [HS.out.2]; go_num, HS.out.1⟩
                case measure => simp [intOf]; omega
            · have ek : y.take k = y := List.take_of_length_le (by omega)
              unfold SInv at hinv
              rw [ek] at hinv hul ⊢
              obtain ⟨hon, _, _, _⟩ := hinv
              obtain ⟨K, HK⟩ : ∃ K, Hid (K = uniq y) := ⟨_, rfl⟩
              rw [← HK.out] at hon hul ⊢
              obtain ⟨L, HL⟩ : ∃ L, Hid (L = x ++ K.take 16) := ⟨_, rfl⟩
              obtain ⟨m, HM⟩ : ∃ m : Nat, Hid (m = min 16 K.length) := ⟨_, rfl⟩
              have HLL : Hid (L.length = x.length + m) := by show L.length = _; rw [HL.out, HM.out]; simp
              rw [← HL.out] at hon
              have hbw' := hbw
              obtain ⟨p5, c5, hu5, hn5, hc5, hm5, _⟩ := hon.hn
              rw [HLL.out] at hu5
              obtain ⟨q6, d6, hsl6, hn6⟩ := slice_to (F := x.length) hn5 HLL.out.symm hc5 (by rw [HLL.out]; omega)
              have hLx : L.take x.length = x := by rw [HL.out]; simp
              rw [hLx] at hn6
              have HN5 : Hid (HN wr p5 L) := hn5
              have HSN : Hid (Calls Try.prog 28 #[.slice q6 x.length d6, .slice p x.length c] wr fun e w' => e = .returned (.bool true) ∧ ∃ n, w' = wr.drewN n) := by
                show Calls _ _ _ _ _
                have := sameNames q6 p d6 c hn6 (HX.out.below hbw (Nat.le_refl _)) (by unfold maxLen; omega)
                simpa using this
              have hmle : m ≤ 16 := by rw [HM.out]; omega
              subst hu5
              have hKl : K.length ≤ 1048576 := by omega
              clear hbw hon hn5 hc5 hm5 hn6 hLx ek hul HINV hbw'
              have HW : Hid (∀ n, HN (wr.drewN n) p5 L ∧ Below w3.heap.size w3 (wr.drewN n)) := fun n => ⟨HN5.out.drewN n, below_drewN' HBW.out n⟩
              have HUP : Hid (∀ j (hj : j < y.length), y[j] ∉ uniq (y.take j) → ∀ (h : x.length + (uniq (y.take j)).length < L.length), L[x.length + (uniq (y.take j)).length] = y[j]) := by
                intro j hj hnot h
                have := script_at hj hnot (x := x) (by rw [← HK.out, ← HL.out]; exact h)
                simp only [← HK.out, ← HL.out] at this
                exact this
              clear HN5 HX
              have h16 : (m = 16 ∧ (16 : Int) < (K.length : Int)) ∨ (m = K.length ∧ ¬ (16 : Int) < (K.length : Int)) := by
                rw [HM.out]; omega
              rcases h16 with ⟨hm16, h16'⟩ | ⟨hm16, h16'⟩
              all_goals
                subst hm16
                clear HM
                go_wp2_with fail
                refine HSN.out.mono ?_
                rintro e w7 ⟨rfl, n7, hw7⟩
                have hW7 : HN w7 p5 L ∧ Below w3.heap.size w3 w7 := by rw [hw7]; exact HW.out n7
                have HW7 : Hid (HN w7 p5 L ∧ Below w3.heap.size w3 w7) := hW7
                clear hw7 hW7
                go_wp2
                go_loopw [18, 19] (fun jv i wr => ∃ k2 : Nat, k2 ≤ y.length ∧ i = .int .i64 k2 ∧ jv = .int .i64 ((x.length + (uniq (y.take k2)).length : Nat) : Int) ∧ (∃ n s, n ≤ k2 ∧ MB wr w7.heap.size n (inF (uniq (y.take k2))) s) ∧ Below w7.heap.size w7 wr) (fun _ i _ => y.length - (intOf i).toNat)
                case atStart => exact ⟨0, Nat.zero_le _, rfl, by simp [uniq], ⟨0, 0, Nat.le_refl _, by simpa [uniq, inF_nil] using MB.made w7⟩, (Below.refl _ _).alloc (Nat.le_refl _) _⟩
                case round =>
                  obtain ⟨k2, hk2, rfl, rfl, ⟨n8, s8, hn8, hMB8⟩, hb8⟩ := hrel
                  have hb83 : Below w3.heap.size w3 wr := HW7.out.2.trans (hb8.mono HW7.out.2.size)
                  have hul2 : (uniq (y.take k2)).length ≤ k2 := Nat.le_trans (uniq_length_le _) (by simp; omega)
                  by_cases hlt2 : k2 < y.length
                  · by_cases hj : x.length + (uniq (y.take k2)).length < L.length
                    · have hj2 := hj
                      rw [HLL.out] at hj2
                      obtain ⟨b, off, hq, v, hcv3, hv3⟩ := HY.out k2 hlt2
                      subst hq
                      have hblt : b < w3.heap.size := World.block_lt_of_cell? w3 _ hcv3
                      have hcv : wr.cell? ⟨b, off + k2, none⟩ = some v := (hb83.cell (p := ⟨b, off + k2, none⟩) hblt).trans hcv3
                      have hvr : HB wr v y[k2] := hv3.below hb83 (Nat.le_refl _)
                      have hcon : (convert 28 9 v).run Try.prog wr = .ok (.string (str y[k2])) wr := hvr.convert
                      have hyk := le_lens hlt2
                      have hml : y[k2].length ≤ maxLen := by unfold maxLen; omega
                      by_cases hmem : y[k2] ∈ uniq (y.take k2)
                      · have hlk : (Instr.lookup 41 (.map (some w7.heap.size)) (.string (str y[k2])) false).run Try.prog wr = .ok (.bool true) wr := by
                          have := hMB8.look hml
                          rw [inF_getD] at this
                          simpa [hmem] using this
                        have HU : Hid (uniq (y.take (k2 + 1)) = uniq (y.take k2)) := by show _ = _; rw [uniq_take_succ hlt2, uniqStep_hit hmem]
                        have HMB8 : Hid (MB wr w7.heap.size n8 (inF (uniq (y.take k2))) s8) := hMB8
                        have HB8 : Hid (Below w7.heap.size w7 wr) := hb8
                        clear hb8 hMB8 hb83 hcv3 hv3 hvr hmem hml hyk
                        go_wp2
                        go_roundw
                        case rel => exact ⟨k2 + 1, by omega, by go_num, by rw [HU.out], ⟨n8, s8, by omega, by rw [HU.out]; exact HMB8.out⟩, HB8.out⟩
                        case measure => simp [intOf]; omega
                      · have hlk : (Instr.lookup 41 (.map (some w7.heap.size)) (.string (str y[k2])) false).run Try.prog wr = .ok (.bool false) wr := by
                          have := hMB8.look hml
                          rw [inF_getD] at this
                          simpa [hmem] using this
                        obtain ⟨w9, hrun, hMB9, hMT9⟩ := hMB8.store (by unfold maxLen; omega) hml true
                        have HU : Hid (uniq (y.take (k2 + 1)) = uniq (y.take k2) ++ [y[k2]]) := by show _ = _; rw [uniq_take_succ hlt2, uniqStep_miss hmem]
                        rw [upd_inF] at hMB9
                        have HMB9 : Hid (MB w9 w7.heap.size (n8 + 1) (inF (uniq (y.take k2) ++ [y[k2]])) (cnt (inF (uniq (y.take k2))) y[k2] s8)) := hMB9
                        have hb9 : Below w7.heap.size w7 w9 := hb8.trans (hMT9.below (Nat.le_refl _))
                        have HB9 : Hid (Below w7.heap.size w7 w9) := hb9
                        have hb93 : Below w3.heap.size w3 w9 := HW7.out.2.trans (hb9.mono HW7.out.2.size)
                        have hcv9 : w9.cell? ⟨b, off + k2, none⟩ = some v := (hb93.cell (p := ⟨b, off + k2, none⟩) hblt).trans hcv3
                        obtain ⟨b', off', hp5, v5, hc5, hv5⟩ := (HW7.out.1.below hb9 (Nat.le_refl _)) _ hj
                        subst hp5
                        have hc5' : w9.cell? ⟨b', off' + (x.length + (uniq (y.take k2)).length), none⟩ = some v5 := hc5
                        have HC : Hid (∀ m, Calls Try.prog 29 #[v5, v] (w9.drewN m) fun e w' => e = .returned (.bool true) ∧ ∃ j, w' = (w9.drewN m).drewN j) := by
                          intro m
                          have := bytesEqual (hv5.drewN m) ((hv3.below hb93 (Nat.le_refl _)).drewN m)
                          rw [HUP.out k2 hlt2 hmem hj] at this
                          simpa using this
                        clear hb8 hMB8 hb83 hcv3 hv3 hvr hmem hml hyk hMB9 hMT9 hb9 hb93 hv5 hc5
                        generalize hU : (uniq (y.take k2)).length = U at hul2 hj2 hc5' ⊢
                        have HUL : Hid ((uniq (y.take k2)).length = U) := hU
                        clear hU
                        go_wp2
                        go_quiet ((go_at_call 29; exact Calls.quiet_of (HC.out _)))
                        go_wp2
                        go_roundw
                        case rel => exact ⟨k2 + 1, by omega, by go_num, by rw [HU.out, List.length_append, HUL.out]; simp only [List.length_cons, List.length_nil]; go_num, ⟨n8 + 1, _, by omega, by rw [HU.out]; exact HMB9.out.drewN _⟩, below_drewN' HB9.out _⟩
                        case measure => simp [intOf]; omega
                    · have hj2 := hj
                      rw [HLL.out] at hj2
                      have hBF : Below w3.heap.size w3 wr := hb83
                      clear hb8 hMB8 hj hb83
                      go_wp2
                      go_ret
                      exact ⟨rfl, hBF⟩
                  · clear hb8 hMB8
                    go_wp2
                    go_ret
                    exact ⟨rfl, hb83⟩

end Go.Proofs.Qxb6603282a
