import Derived.Test.Qxb6603282aSetPlain
namespace Go.Proofs.Qxb6603282a
open Go.RowKit

set_option maxHeartbeats 800000 in
/-- zzNamedBytes: some number of modest size. -/
theorem namedBytes {w : World} (p q r : Option Addr) (c d : Nat) {ks : List (List UInt8)} {vs : List Bool} {v : Value} {nm : List UInt8} {ls : List (List UInt8)} (cr : Nat) (hk : HK w p ks) (hv : HB w v nm) (hn : HN w r ls) (hks : ks.length ≤ 1048576) (hvs : vs.length ≤ 1048576) (hnl : nm.length ≤ 1048576) :
    Calls Try.prog 23 #[.slice p ks.length c, .slice q vs.length d, v, .slice r ls.length cr] w fun e w' => ∃ t : Nat, e = .returned (.int .i64 t) ∧ t ≤ 100000000 ∧ w' = w := by
  obtain ⟨pv, cv, rfl⟩ := hv.shape
  clear hv
  have hss := str_size
  go_enter Try.func23, Try.ntmps23
  go_wp2
  go_loop [9, 10] (fun t i => ∃ k r : Nat, k ≤ ks.length ∧ i = .int .i64 k ∧ t = .int .i64 r ∧ r ≤ 50000000) (fun _ i => ks.length - (intOf i).toNat)
  case atStart => exact ⟨0, 16 * ks.length + vs.length + nm.length, Nat.zero_le _, rfl, by go_num, by omega⟩
  case round =>
    obtain ⟨k, t, hk', rfl, rfl, ht⟩ := hrel
    by_cases hlt : k < ks.length
    · obtain ⟨b, off, hp, hc⟩ := hk k hlt
      subst hp
      clear hk hn
      by_cases h1 : (1048576 : Int) < (t : Int)
      · go_wp2
        go_ret
        exact ⟨t, rfl, by omega, rfl⟩
      · by_cases h2 : (1048576 : Int) < (ks[k].length : Int)
        · go_wp2
          go_ret
          exact ⟨1048577, rfl, by omega, rfl⟩
        · go_wp2
          go_round
          case rel => exact ⟨k + 1, t + ks[k].length, by omega, by go_num, by go_num, by omega⟩
          case measure => simp [intOf]; omega
    · by_cases h1 : (1048576 : Int) < (t : Int)
      · clear hk hn
        go_wp2
        go_ret
        exact ⟨t, rfl, by omega, rfl⟩
      · have HN' : Hid (HN w r ls) := hn
        clear hk hn
        go_wp2_with fail
        refine (nestedBytes r cr HN'.out).mono ?_
        rintro e w2 ⟨r2, rfl, hr2, rfl⟩
        go_wp2
        go_ret
        exact ⟨t + r2, by go_num, by omega, rfl⟩

set_option maxHeartbeats 1600000 in
/-- zzBytes_FnNamedMatchesSetModel: where it says yes, all is small. -/
theorem bytesSet {w : World} (F : Int) (sn : Bool) (p q r : Option Addr) (c d cr : Nat) {ks : List (List UInt8)} {vs : List Bool} {v : Value} {nm : List UInt8} {ls : List (List UInt8)} (hk : HK w p ks) (hv : HB w v nm) (hn : HN w r ls) :
    Calls Try.prog 22 #[.int .i64 F, .bool sn, .slice p ks.length c, .slice q vs.length d, v, .slice r ls.length cr] w fun e w' => OkSmall (ks.length + lens ks + vs.length + nm.length + ls.length + lens ls) e ∧ w' = w := by
  obtain ⟨pv, cv, rfl⟩ := hv.shape
  clear hv
  have hss := str_size
  by_cases h1 : (1048576 : Int) < (ks.length : Int)
  · clear hk hn
    go_enter Try.func22, Try.ntmps22
    go_wp2
    go_ret
    exact ⟨⟨false, rfl, by simp⟩, rfl⟩
  · go_enter Try.func22, Try.ntmps22
    go_wp2
    go_loop [13, 14] (fun t i => ∃ k : Nat, k ≤ ks.length ∧ i = .int .i64 k ∧ t = .int .i64 ((ks.length + lens (ks.take k) : Nat) : Int) ∧ ks.length + lens (ks.take k) ≤ 1048576) (fun _ i => ks.length - (intOf i).toNat)
    case atStart => exact ⟨0, Nat.zero_le _, rfl, by simp [lens], by simp [lens]; omega⟩
    case round =>
      obtain ⟨k, hk', rfl, rfl, hr⟩ := hrel
      by_cases hlt : k < ks.length
      · have HS : Hid (lens (ks.take (k + 1)) = lens (ks.take k) + ks[k].length) := lens_take_succ hlt
        obtain ⟨b, off, hp, hc⟩ := hk k hlt
        subst hp
        clear hk hn
        generalize lens (ks.take k) = t at hr HS ⊢
        by_cases h2 : (1048576 : Int) < (ks[k].length : Int)
        · go_wp2
          go_ret
          exact ⟨⟨false, rfl, by simp⟩, rfl⟩
        · by_cases h3 : (1048576 : Int) < ((ks.length + t : Nat) : Int) + (ks[k].length : Int)
          · go_wp2
            go_ret
            exact ⟨⟨false, rfl, by simp⟩, rfl⟩
          · go_wp2
            go_round
            case rel => exact ⟨k + 1, by omega, by go_num, by rw [HS.out]; go_num, by rw [HS.out]; omega⟩
            case measure => simp [intOf]; omega
      · have ek : ks.take k = ks := List.take_of_length_le (by omega)
        rw [ek] at hr ⊢
        clear ek hk
        generalize hR : lens ks = R at hr ⊢
        have HR : Hid (lens ks = R) := hR
        clear hR
        by_cases h2 : (1048576 : Int) < (vs.length : Int)
        · clear hn
          go_wp2
          go_ret
          exact ⟨⟨false, rfl, by simp⟩, rfl⟩
        · by_cases h3 : (1048576 : Int) < ((ks.length + R : Nat) : Int) + (vs.length : Int)
          · clear hn
            go_wp2
            go_ret
            exact ⟨⟨false, rfl, by simp⟩, rfl⟩
          · by_cases h4 : (1048576 : Int) < (nm.length : Int)
            · clear hn
              go_wp2
              go_ret
              exact ⟨⟨false, rfl, by simp⟩, rfl⟩
            · by_cases h5 : (1048576 : Int) < ((ks.length + R : Nat) : Int) + (vs.length : Int) + (nm.length : Int)
              · clear hn
                go_wp2
                go_ret
                exact ⟨⟨false, rfl, by simp⟩, rfl⟩
              · by_cases h6 : (1048576 : Int) < (ls.length : Int)
                · clear hn
                  go_wp2
                  go_ret
                  exact ⟨⟨false, rfl, by simp⟩, rfl⟩
                · by_cases h7 : (1048576 : Int) < ((ks.length + R : Nat) : Int) + (vs.length : Int) + (nm.length : Int) + (ls.length : Int)
                  · clear hn
                    go_wp2
                    go_ret
                    exact ⟨⟨false, rfl, by simp⟩, rfl⟩
                  · go_wp2
                    go_loop [13, 15] (fun t i => ∃ j : Nat, j ≤ ls.length ∧ i = .int .i64 j ∧ t = .int .i64 ((ks.length + R + vs.length + nm.length + ls.length + lens (ls.take j) : Nat) : Int) ∧ ks.length + R + vs.length + nm.length + ls.length + lens (ls.take j) ≤ 1048576) (fun _ i => ls.length - (intOf i).toNat)
                    case atStart => exact ⟨0, Nat.zero_le _, rfl, by simp [lens], by simp [lens]; omega⟩
                    case round =>
                      obtain ⟨j, hj, rfl, rfl, hr2⟩ := hrel
                      by_cases hlt2 : j < ls.length
                      · have HS : Hid (lens (ls.take (j + 1)) = lens (ls.take j) + ls[j].length) := lens_take_succ hlt2
                        obtain ⟨b, off, hq, u, hc, hu⟩ := hn j hlt2
                        obtain ⟨q', d', rfl⟩ := hu.shape
                        subst hq
                        clear hu hn
                        generalize lens (ls.take j) = t at hr2 HS ⊢
                        by_cases g1 : (1048576 : Int) < (ls[j].length : Int)
                        · go_wp2
                          go_ret
                          exact ⟨⟨false, rfl, by simp⟩, rfl⟩
                        · by_cases g2 : (1048576 : Int) < ((ks.length + R + vs.length + nm.length + ls.length + t : Nat) : Int) + (ls[j].length : Int)
                          · go_wp2
                            go_ret
                            exact ⟨⟨false, rfl, by simp⟩, rfl⟩
                          · go_wp2
                            go_round
                            case rel => exact ⟨j + 1, by omega, by go_num, by rw [HS.out]; go_num, by rw [HS.out]; omega⟩
                            case measure => simp [intOf]; omega
                      · have ej : ls.take j = ls := List.take_of_length_le (by omega)
                        rw [ej] at hr2
                        clear hn
                        go_wp2
                        go_ret
                        exact ⟨⟨true, rfl, fun _ => by rw [HR.out]; exact hr2⟩, rfl⟩

end Go.Proofs.Qxb6603282a
