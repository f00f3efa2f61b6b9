import Derived.Test.Qxb6603282aBytes
namespace Go.Proofs.Qxb6603282a
open Go.RowKit

/-- The slice at p of n elements holds the slices of bytes ls. -/
def HN (w : World) (p : Option Addr) (ls : List (List UInt8)) : Prop :=
  ∀ i (h : i < ls.length), ∃ b off, p = some ⟨b, off, none⟩ ∧ ∃ v, w.cell? ⟨b, off + i, none⟩ = some v ∧ HB w v ls[i]

theorem HN.drewN {w : World} {p : Option Addr} {ls : List (List UInt8)} (h : HN w p ls) (n : Nat) : HN (w.drewN n) p ls := by
  intro i hi
  obtain ⟨b, off, hp, v, hc, hv⟩ := h i hi
  exact ⟨b, off, hp, v, by simpa using hc, hv.drewN n⟩

theorem HN.below {B : Nat} {w w' : World} {p : Option Addr} {ls : List (List UInt8)} (h : HN w p ls) (hb : Below B w w') (hB : w.heap.size ≤ B) : HN w' p ls := by
  intro i hi
  obtain ⟨b, off, hp, v, hc, hv⟩ := h i hi
  have hlt := World.block_lt_of_cell? w _ hc
  refine ⟨b, off, hp, v, ?_, hv.below hb hB⟩
  rw [hb.cell (p := ⟨b, off + i, none⟩) (by simp at hlt ⊢; omega)]
  exact hc

/-- The shape of a slice of bytes. -/
theorem HB.shape {w : World} {v : Value} {l : List UInt8} (h : HB w v l) : ∃ p cap, v = .slice p l.length cap := by
  rcases h with ⟨rfl, p, cap, rfl⟩ | ⟨b, off, cap, _, rfl, _⟩
  · exact ⟨_, _, rfl⟩
  · exact ⟨_, _, rfl⟩

/-- How many bytes. -/
def lens (ls : List (List UInt8)) : Nat := (ls.map List.length).sum

theorem lens_take_succ {ls : List (List UInt8)} {k : Nat} (h : k < ls.length) : lens (ls.take (k + 1)) = lens (ls.take k) + ls[k].length := by
  unfold lens
  rw [List.take_succ_eq_append_getElem h, List.map_append, List.sum_append]
  simp

theorem lens_take_le (ls : List (List UInt8)) (k : Nat) : lens (ls.take k) ≤ lens ls := by
  conv => rhs; rw [← List.take_append_drop k ls]
  simp only [lens, List.map_append, List.sum_append]
  omega

theorem le_lens {ls : List (List UInt8)} {k : Nat} (h : k < ls.length) : ls[k].length ≤ lens ls := by
  have := lens_take_le ls (k + 1)
  rw [lens_take_succ h] at this
  omega

set_option maxHeartbeats 400000 in
/-- zzNestedBytes: some number of modest size. -/
theorem nestedBytes {w : World} (p : Option Addr) (c : Nat) {ls : List (List UInt8)} (h : HN w p ls) :
    Calls Try.prog 31 #[.slice p ls.length c] w fun e w' => ∃ r : Nat, e = .returned (.int .i64 r) ∧ r ≤ 4000000 ∧ w' = w := by
  by_cases hbig : (65536 : Int) < (ls.length : Int)
  · go_enter Try.func31, Try.ntmps31
    go_wp2
    go_ret
    exact ⟨1048577, rfl, by omega, rfl⟩
  · have hsm : ls.length ≤ 65536 := by omega
    go_enter Try.func31, Try.ntmps31
    go_wp2
    go_loop [3, 4] (fun t i => ∃ k r : Nat, k ≤ ls.length ∧ i = .int .i64 k ∧ t = .int .i64 r ∧ r ≤ 2700000) (fun _ i => ls.length - (intOf i).toNat)
    case atStart => exact ⟨0, 24 * ls.length, Nat.zero_le _, rfl, by go_num, by omega⟩
    case round =>
      obtain ⟨k, r, hk, rfl, rfl, hr⟩ := hrel
      by_cases hlt : k < ls.length
      · obtain ⟨b, off, hp, v, hc, hv⟩ := h k hlt
        obtain ⟨q, d, rfl⟩ := hv.shape
        subst hp
        clear hv h
        by_cases h1 : (1048576 : Int) < (r : Int)
        · go_wp2
          go_ret
          exact ⟨r, rfl, by omega, rfl⟩
        · by_cases h2 : (1048576 : Int) < (ls[k].length : Int)
          · go_wp2
            go_ret
            exact ⟨1048577, rfl, by omega, rfl⟩
          · go_wp2
            go_round
            case rel => exact ⟨k + 1, r + ls[k].length, by omega, by go_num, by go_num, by omega⟩
            case measure => simp [intOf]; omega
      · go_wp2
        go_ret
        exact ⟨r, rfl, by omega, rfl⟩

theorem of_not_beq {a b : Bool} (h : (!(a == b)) = true) : (a == b) = false := by simpa using h

theorem take_succ_eq' {x y : List (List UInt8)} {k : Nat} (h : x.take k = y.take k) (hx : k < x.length) (hy : k < y.length) (he : x[k] = y[k]) : x.take (k + 1) = y.take (k + 1) := by
  rw [List.take_succ_eq_append_getElem hx, List.take_succ_eq_append_getElem hy, h, he]

theorem beq_of_ne_at' {x y : List (List UInt8)} {k : Nat} (hx : k < x.length) (hy : k < y.length) (h : (x[k] == y[k]) = false) : (false : Bool) = (x == y) := by
  symm
  rw [beq_eq_false_iff_ne]
  intro e
  subst e
  simp at h

set_option maxHeartbeats 400000 in
/-- zzSameNames. -/
theorem sameNames {w : World} (p q : Option Addr) (c d : Nat) {x y : List (List UInt8)} (hx : HN w p x) (hy : HN w q y) (hmx : x.length ≤ maxLen) :
    Calls Try.prog 28 #[.slice p x.length c, .slice q y.length d] w fun e w' => e = .returned (.bool (x == y)) ∧ ∃ n, w' = w.drewN n := by
  unfold maxLen at hmx
  by_cases hl : y.length = x.length
  · rw [hl]
    go_enter Try.func28, Try.ntmps28
    go_wp2
    go_loopw [5] (fun i wr => ∃ k : Nat, k ≤ x.length ∧ i = .int .i64 k ∧ x.take k = y.take k ∧ ∃ n, wr = w.drewN n) (fun i _ => x.length - (intOf i).toNat)
    case atStart => exact ⟨0, Nat.zero_le _, rfl, by simp, 0, rfl⟩
    case round =>
      obtain ⟨k, hk, rfl, he, n, hw⟩ := hrel
      have HE : Hid (x.take k = y.take k) := he
      have HW : Hid (wr = w.drewN n) := hw
      by_cases hlt : k < x.length
      · have hky : k < y.length := by omega
        have hx' : HN wr p x := by rw [hw]; exact hx.drewN n
        have hy' : HN wr q y := by rw [hw]; exact hy.drewN n
        obtain ⟨b, off, hp, u, hcx, hu⟩ := hx' k hlt
        obtain ⟨b', off', hq, v, hcy, hv⟩ := hy' k hky
        subst hp
        subst hq
        clear hx hy hx' hy' he hw
        have HC : Hid (∀ m, Calls Try.prog 29 #[u, v] (wr.drewN m) fun e w' => e = .returned (.bool (x[k] == y[k])) ∧ ∃ j, w' = (wr.drewN m).drewN j) := fun m => bytesEqual (hu.drewN m) (hv.drewN m)
        clear hu hv
        go_wp2
        go_quiet ((go_at_call 29; exact Calls.quiet_of (HC.out _)))
        go_wp2
        · have h0 : (!(x[k] == y[k])) = true := by assumption
          have h2 : (x[k] == y[k]) = false := by simpa using h0
          go_ret
          exact ⟨ret_bool (beq_of_ne_at' hlt hky h2), n + nq, by rw [HW.out, World.drewN_drewN]⟩
        · have h0 : (!(x[k] == y[k])) = false := by assumption
          have h2 : (x[k] == y[k]) = true := by simpa using h0
          have h3 := take_succ_eq' HE.out hlt hky (by simpa using h2)
          go_roundw
          case rel => exact ⟨k + 1, by omega, by go_num, h3, n + nq, by rw [HW.out, World.drewN_drewN]⟩
          case measure => simp [intOf]; omega
      · clear he hw
        go_wp2
        go_ret
        have h4 := HE.out
        rw [List.take_of_length_le (by omega), List.take_of_length_le (by omega)] at h4
        exact ⟨ret_bool (by rw [h4]; simp), n, HW.out⟩
  · have hne : (x == y) = false := by
      rw [beq_eq_false_iff_ne]; rintro rfl; exact hl rfl
    rw [hne]
    have h1 : ((x.length : Int) != (y.length : Int)) = true := by simp; omega
    clear hx hy hne
    go_enter Try.func28, Try.ntmps28
    go_wp2
    go_ret
    exact ⟨rfl, 0, rfl⟩

theorem drop_lens {ls : List (List UInt8)} {k : Nat} : lens (ls.take k) ≤ lens ls := lens_take_le ls k

/-- The answer is a bool, and a yes says that N is small. -/
def OkSmall (N : Nat) (e : Ending) : Prop := ∃ b : Bool, e = .returned (.bool b) ∧ (b = true → N ≤ 1048576)

set_option maxHeartbeats 800000 in
/-- zzBytes_FnNamedScriptReportsRepeats: where it says yes, all is small. -/
theorem bytesScript {w : World} (p q : Option Addr) (c d : Nat) {x y : List (List UInt8)} (hx : HN w p x) (hy : HN w q y) :
    Calls Try.prog 30 #[.slice p x.length c, .slice q y.length d] w fun e w' => OkSmall (x.length + lens x + y.length + lens y) e ∧ w' = w := by
  by_cases h1 : (1048576 : Int) < (x.length : Int)
  · go_enter Try.func30, Try.ntmps30
    go_wp2
    go_ret
    exact ⟨⟨false, rfl, by simp⟩, rfl⟩
  · go_enter Try.func30, Try.ntmps30
    go_wp2
    go_loop [5, 6] (fun t i => ∃ k : Nat, k ≤ x.length ∧ i = .int .i64 k ∧ t = .int .i64 ((x.length + lens (x.take k) : Nat) : Int) ∧ x.length + lens (x.take k) ≤ 1048576) (fun _ i => x.length - (intOf i).toNat)
    case atStart => exact ⟨0, Nat.zero_le _, rfl, by simp [lens], by simp [lens]; omega⟩
    case round =>
      obtain ⟨k, hk, rfl, rfl, hr⟩ := hrel
      by_cases hlt : k < x.length
      · have hs := lens_take_succ hlt
        have HS : Hid (lens (x.take (k + 1)) = lens (x.take k) + x[k].length) := hs
        clear hs
        obtain ⟨b, off, hp, v, hc, hv⟩ := hx k hlt
        obtain ⟨q', d', rfl⟩ := hv.shape
        subst hp
        clear hv hx hy
        generalize lens (x.take k) = r at hr HS ⊢
        by_cases h2 : (1048576 : Int) < (x[k].length : Int)
        · go_wp2
          go_ret
          exact ⟨⟨false, rfl, by simp⟩, rfl⟩
        · by_cases h3 : (1048576 : Int) < ((x.length + r : Nat) : Int) + (x[k].length : Int)
          · go_wp2
            go_ret
            exact ⟨⟨false, rfl, by simp⟩, rfl⟩
          · go_wp2
            go_round
            case rel => exact ⟨k + 1, by omega, by go_num, by rw [HS.out]; go_num, by rw [HS.out]; omega⟩
            case measure => simp [intOf]; omega
      · have ek : x.take k = x := List.take_of_length_le (by omega)
        rw [ek] at hr ⊢
        clear ek
        generalize hR : lens x = R at hr ⊢
        have HR : Hid (lens x = R) := hR
        clear hR
        by_cases h2 : (1048576 : Int) < (y.length : Int)
        · clear hx hy
          go_wp2
          go_ret
          exact ⟨⟨false, rfl, by simp⟩, rfl⟩
        · by_cases h3 : (1048576 : Int) < ((x.length + R : Nat) : Int) + (y.length : Int)
          · clear hx hy
            go_wp2
            go_ret
            exact ⟨⟨false, rfl, by simp⟩, rfl⟩
          · go_wp2
            go_loop [5, 7] (fun t i => ∃ k : Nat, k ≤ y.length ∧ i = .int .i64 k ∧ t = .int .i64 ((x.length + R + y.length + lens (y.take k) : Nat) : Int) ∧ x.length + R + y.length + lens (y.take k) ≤ 1048576) (fun _ i => y.length - (intOf i).toNat)
            case atStart => exact ⟨0, Nat.zero_le _, rfl, by simp [lens], by simp [lens]; omega⟩
            case round =>
              obtain ⟨j, hj, rfl, rfl, hr2⟩ := hrel
              by_cases hlt2 : j < y.length
              · have hs := lens_take_succ hlt2
                have HS : Hid (lens (y.take (j + 1)) = lens (y.take j) + y[j].length) := hs
                clear hs
                obtain ⟨b, off, hq, v, hc, hv⟩ := hy j hlt2
                obtain ⟨q', d', rfl⟩ := hv.shape
                subst hq
                clear hv hx hy
                generalize lens (y.take j) = r at hr2 HS ⊢
                by_cases h4 : (1048576 : Int) < (y[j].length : Int)
                · go_wp2
                  go_ret
                  exact ⟨⟨false, rfl, by simp⟩, rfl⟩
                · by_cases h5 : (1048576 : Int) < ((x.length + R + y.length + r : Nat) : Int) + (y[j].length : Int)
                  · go_wp2
                    go_ret
                    exact ⟨⟨false, rfl, by simp⟩, rfl⟩
                  · go_wp2
                    go_round
                    case rel => exact ⟨j + 1, by omega, by go_num, by rw [HS.out]; go_num, by rw [HS.out]; omega⟩
                    case measure => simp [intOf]; omega
              · have ej : y.take j = y := List.take_of_length_le (by omega)
                rw [ej] at hr2
                clear hx hy
                go_wp2
                go_ret
                exact ⟨⟨true, rfl, fun _ => by rw [HR.out]; exact hr2⟩, rfl⟩

end Go.Proofs.Qxb6603282a
