import Derived.Test.Qxb6603282aStep1b
namespace Go.Proofs.Qxb6603282a
open Go.RowKit
attribute [local go_sem] st_size st_toList st_get st_extract st_append

/-! ### the plain law -/
theorem suf_eed {l : List UInt8} (h : suf l [101, 101, 100] = true) : suf l [101, 100] = true := by
  have hl := suf_len h
  simp at hl
  rw [suf_true (by simpa using hl)] at h
  have h' : l.drop (l.length - 3) = [101, 101, 100] := by simpa using h
  rw [suf_true (by simp; omega)]
  have e : l.drop (l.length - 2) = (l.drop (l.length - 3)).drop 1 := by rw [List.drop_drop]; congr 1; omega
  simp [e, h']

theorem step1b_other {l : List UInt8} (h1 : suf l [101, 100] = false) (h2 : suf l [105, 110, 103] = false) : step1b l = l := by
  have h0 : suf l [101, 101, 100] = false := by
    cases h : suf l [101, 101, 100] with
    | false => rfl
    | true => rw [suf_eed h] at h1; cases h1
  simp [step1b, h0, h1, h2]

theorem pre_take {l : List UInt8} (k : Nat) (h : k ≤ l.length) : pre l (l.take k) = true := by
  rw [pre_true (by simp; omega)]
  simp

/-- What step 1b may come to. -/
def Cut (l o : List UInt8) : Prop := (∃ k, 0 < k ∧ k ≤ l.length ∧ l.length ≤ k + 4 ∧ o = l.take k) ∨ (∃ k, k + 1 ≤ l.length ∧ l.length ≤ k + 1 + 4 ∧ o = l.take k ++ [101])

theorem take_take' {l : List UInt8} {a b : Nat} (h : a ≤ b) : (l.take b).take a = l.take a := by rw [List.take_take, Nat.min_eq_left h]

theorem cut_mend {l : List UInt8} {k : Nat} (hk : k ≤ l.length) (h2 : k + 2 ≤ l.length) (h3 : l.length ≤ k + 3) (hp : 0 < k) : Cut l (mend (l.take k)) := by
  have hlen : (l.take k).length = k := by simp; omega
  unfold mend
  split
  · exact .inr ⟨k, by omega, by omega, rfl⟩
  · split
    · rename_i hd
      have h2k : 2 ≤ k := by
        have : decide (2 ≤ (l.take k).length) = true := by
          unfold dbl at hd
          simp only [Bool.and_eq_true] at hd
          exact hd.1.1
        rw [hlen] at this
        simpa using this
      split
      · rw [hlen, take_take' (by omega)]
        exact .inl ⟨k - 1, by omega, by omega, by omega, rfl⟩
      · exact .inl ⟨k, hp, hk, by omega, rfl⟩
    · split
      · exact .inr ⟨k, by omega, by omega, rfl⟩
      · exact .inl ⟨k, hp, hk, by omega, rfl⟩

theorem cut_self {l : List UInt8} (h : 0 < l.length) : Cut l l := .inl ⟨l.length, h, Nat.le_refl _, by omega, by simp⟩

theorem cut_fin {l : List UInt8} {k : Nat} (h2 : k + 2 ≤ l.length) (h3 : l.length ≤ k + 3) : Cut l (fin l (l.take k)) := by
  unfold fin
  split
  · rename_i hv
    have := hasV_pos hv
    simp at this
    exact cut_mend (by omega) h2 h3 (by omega)
  · exact cut_self (by omega)

theorem cut_step1b {l : List UInt8} (h : suf l [101, 100] = true ∨ suf l [105, 110, 103] = true) : Cut l (step1b l) := by
  unfold step1b
  split
  · rename_i h1
    have := suf_len h1
    simp at this
    split
    · exact .inl ⟨l.length - 1, by omega, by omega, by omega, rfl⟩
    · exact cut_self (by omega)
  · split
    · rename_i h1
      have := suf_len h1
      simp at this
      exact cut_fin (by omega) (by omega)
    · split
      · rename_i h1
        have := suf_len h1
        simp at this
        exact cut_fin (by omega) (by omega)
      · rename_i a b
        rcases h with h | h
        · exact absurd h a
        · exact absurd h b

theorem Cut.len {l o : List UInt8} (h : Cut l o) : 0 < o.length ∧ o.length ≤ l.length ∧ l.length ≤ o.length + 4 := by
  rcases h with ⟨k, h1, h2, h3, rfl⟩ | ⟨k, h1, h2, rfl⟩
  · simp; omega
  · simp; omega

theorem Cut.end {l o : List UInt8} (h : Cut l o) (hp : pre l o = false) : ∀ hl : o.length - 1 < o.length, o[o.length - 1] = 101 ∧ pre l (o.take (o.length - 1)) = true := by
  intro hl
  rcases h with ⟨k, h1, h2, h3, rfl⟩ | ⟨k, h1, h2, rfl⟩
  · rw [pre_take k h2] at hp; cases hp
  · have hlen : (l.take k ++ [101]).length - 1 = (l.take k).length := by simp
    constructor
    · simp
    · rw [hlen]
      simp only [List.take_left]
      exact pre_take k (by omega)

/-! ### the walk -/
set_option maxHeartbeats 400000 in
theorem zzStep1b (l : List UInt8) (w : World) (hl : l.length ≤ 1048576) :
    Calls Try.prog 10 #[.string (st l)] w fun e w' => e = .returned (.string (st (step1b l))) ∧ ∃ n, w' = w.drewN n := by
  have HC : Hid (Calls Try.prog 32 #[.string (st l)] w fun e w' => e = .returned (.string (st (step1b l))) ∧ ∃ n, w' = w.drewN n) := step1bCalls l w hl
  go_enter Try.func10, Try.ntmps10
  go_wp2_with fail
  refine HC.out.mono ?_
  rintro e w1 ⟨rfl, j, hw⟩
  have HW : Hid (∃ n, w1 = w.drewN n) := ⟨j, hw⟩
  clear hw
  go_wp2
  go_ret
  exact ⟨rfl, HW.out⟩

set_option maxHeartbeats 400000 in
theorem bytesCuts (l : List UInt8) (w : World) :
    Calls Try.prog 12 #[.string (st l)] w fun e w' => e = .returned (.bool (decide (l.length ≤ 1048576))) ∧ w' = w := by
  by_cases h : l.length ≤ 1048576
  · have h' : ¬ (1048576 : Int) < (l.length : Int) := by omega
    rw [decide_eq_true h]
    go_enter Try.func12, Try.ntmps12
    go_wp2
    go_ret
    exact ⟨rfl, rfl⟩
  · have h' : (1048576 : Int) < (l.length : Int) := by omega
    rw [decide_eq_false h]
    go_enter Try.func12, Try.ntmps12
    go_wp2
    go_ret
    exact ⟨rfl, rfl⟩

theorem drewN_bel {B : Nat} {w w' : World} (h : ∃ n, w' = w.drewN n) : Below B w w' := by
  obtain ⟨n, rfl⟩ := h
  exact ⟨rfl, rfl, rfl, Nat.le_refl _, fun _ _ => rfl⟩

set_option maxRecDepth 100000 in
set_option maxHeartbeats 1000000 in
theorem onlyCuts_walk (l : List UInt8) (w : World) :
    Calls Try.prog 4 #[.string (st l)] w fun e w' => e = .returned (.bool true) ∧ Below w.heap.size w w' := by
  go_enter Try.func4, Try.ntmps4
  go_wp2_with fail
  refine (bytesCuts l w).mono ?_
  rintro e w1 ⟨rfl, rfl⟩
  by_cases hl : l.length ≤ 1048576
  · have hd : decide (l.length ≤ 1048576) = true := decide_eq_true hl
    have hI : ¬ (1048576 : Int) < (l.length : Int) := by omega
    rw [hd]
    clear hd
    go_wp2_with fail
    refine (zzStep1b l _ hl).mono ?_
    rintro e w2 ⟨rfl, hw2⟩
    have HB : Hid (Below w1.heap.size w1 w2) := drewN_bel hw2
    clear hw2
    have hm1 : l.length ≤ maxLen := by unfold maxLen; omega
    go_wp2_with fail
    refine (zzHasSuffix l [101, 100] _ hm1 (by unfold maxLen; simp)).mono ?_
    rintro e w3 ⟨rfl, rfl⟩
    cases h1 : suf l [101, 100] with
    | false =>
      go_wp2_with fail
      refine (zzHasSuffix l [105, 110, 103] _ hm1 (by unfold maxLen; simp)).mono ?_
      rintro e w3 ⟨rfl, rfl⟩
      cases h2 : suf l [105, 110, 103] with
      | false =>
        have HO : Hid (step1b l = l) := step1b_other h1 h2
        clear h1 h2 hm1
        go_wp2
        go_ret
        exact ⟨ret_bool' (by rw [HO.out]; simp), HB.out⟩
      | true =>
        have hcut := cut_step1b (.inr h2)
        have hlen := hcut.len
        clear h1 h2 hm1
        generalize step1b l = o at *
        have hend := fun hp => hcut.end hp (by omega)
        clear hcut
        have q1 : ((o.length : Int) == 0) = false := by rw [beq_eq_false_iff_ne]; omega
        have q2 : decide ((l.length : Int) < (o.length : Int)) = false := by simp; omega
        have q3 : decide ((o.length : Int) + 4 < (l.length : Int)) = false := by simp; omega
        have q2' : ¬ (l.length : Int) < (o.length : Int) := by omega
        have q3' : ¬ (o.length : Int) + 4 < (l.length : Int) := by omega
        have hpos : 0 < o.length := hlen.1
        have hbig : o.length ≤ 1048576 := by omega
        go_wp2_with fail
        refine (zzHasPrefix l o _).mono ?_
        rintro e w3 ⟨rfl, rfl⟩
        cases hp : pre l o with
        | true =>
          clear hend hp
          go_wp2
          go_ret
          exact ⟨rfl, HB.out⟩
        | false =>
          obtain ⟨he1, he2⟩ := hend hp
          have q4 : (((o[o.length - 1]'(by omega)).toNat : Int) == 101) = true := by rw [he1]; rfl
          have HC : Hid (∀ W, Calls Try.prog 14 #[.string (st l), .string (st (o.take (o.length - 1)))] W fun e w' => e = .returned (.bool true) ∧ w' = W) := by
            intro W
            have := zzHasPrefix l (o.take (o.length - 1)) W
            rw [he2] at this
            exact this
          clear hend he1 he2 hp
          go_wp2_with (go_at_call 14; refine (HC.out _).mono ?_; rintro e w4 ⟨rfl, rfl⟩)
          go_ret
          exact ⟨ret_bool' (by first | rfl | simp), HB.out⟩
    | true =>
      have hcut := cut_step1b (.inl h1)
      have hlen := hcut.len
      clear h1 hm1
      generalize step1b l = o at *
      have hend := fun hp => hcut.end hp (by omega)
      clear hcut
      have q1 : ((o.length : Int) == 0) = false := by rw [beq_eq_false_iff_ne]; omega
      have q2 : decide ((l.length : Int) < (o.length : Int)) = false := by simp; omega
      have q3 : decide ((o.length : Int) + 4 < (l.length : Int)) = false := by simp; omega
      have q2' : ¬ (l.length : Int) < (o.length : Int) := by omega
      have q3' : ¬ (o.length : Int) + 4 < (l.length : Int) := by omega
      have hpos : 0 < o.length := hlen.1
      have hbig : o.length ≤ 1048576 := by omega
      go_wp2_with fail
      refine (zzHasPrefix l o _).mono ?_
      rintro e w3 ⟨rfl, rfl⟩
      cases hp : pre l o with
      | true =>
        clear hend hp
        go_wp2
        go_ret
        exact ⟨rfl, HB.out⟩
      | false =>
        obtain ⟨he1, he2⟩ := hend hp
        have q4 : (((o[o.length - 1]'(by omega)).toNat : Int) == 101) = true := by rw [he1]; rfl
        have HC : Hid (∀ W, Calls Try.prog 14 #[.string (st l), .string (st (o.take (o.length - 1)))] W fun e w' => e = .returned (.bool true) ∧ w' = W) := by
          intro W
          have := zzHasPrefix l (o.take (o.length - 1)) W
          rw [he2] at this
          exact this
        clear hend he1 he2 hp
        go_wp2_with (go_at_call 14; refine (HC.out _).mono ?_; rintro e w4 ⟨rfl, rfl⟩)
        go_ret
        exact ⟨ret_bool' (by first | rfl | simp), HB.out⟩
  · have hd : decide (l.length ≤ 1048576) = false := decide_eq_false hl
    rw [hd]
    clear hd
    go_wp2
    go_ret
    exact ⟨rfl, Below.refl _ _⟩

end Go.Proofs.Qxb6603282a
