import Derived.Test.Qxb6603282aRows
import Derived.WalkKit
import Derived.WalkSpells
import Derived.WalkLawsBesides
import Derived.Deep.QuietTactic
import Derived.BigQuiet
import Derived.Below
namespace Go.Proofs.Qxb6603282a
open Go.RowKit

/-! ### strings as lists of bytes -/
/-- The string of the bytes l. -/
def st (l : List UInt8) : ByteArray := ⟨l.toArray⟩
theorem st_size (l : List UInt8) : (st l).size = l.length := by simp [st, ByteArray.size]
attribute [local go_sem] st_size
theorem st_data (l : List UInt8) : (st l).data.toList = l := by simp [st]
theorem st_toList (l : List UInt8) : (st l).toList = l := by rw [ByteArray.toList_eq, st_data]
attribute [local go_sem] st_toList
theorem st_get (l : List UInt8) (k : Nat) (h : k < (st l).size) : (st l)[k]'h = l[k]'(by rw [st_size] at h; exact h) := by
  show (st l).data[k]'_ = _
  simp [st]
attribute [local go_sem] st_get
theorem st_of (s : ByteArray) : st s.data.toList = s := by
  cases s
  simp [st]
theorem st_extract (l : List UInt8) (a b : Nat) : (st l).extract a b = st ((l.take b).drop a) := by
  apply ByteArray.ext
  simp [st, ByteArray.data_extract, List.take_drop]
  by_cases h : a ≤ b
  · rw [Nat.add_sub_cancel' h]
  · rw [List.drop_eq_nil_of_le (by simp; omega), List.drop_eq_nil_of_le (by simp; omega)]
attribute [local go_sem] st_extract
theorem st_append (l m : List UInt8) : st l ++ st m = st (l ++ m) := by
  apply ByteArray.ext
  simp [st, ByteArray.data_append]
attribute [local go_sem] st_append
theorem st_inj {l m : List UInt8} (h : st l = st m) : l = m := by
  have := congrArg (fun s : ByteArray => s.data.toList) h
  simpa [st] using this

theorem ret_bool' {a b : Bool} (h : a = b) : Ending.returned (.bool a) = .returned (.bool b) := by rw [h]
theorem ret_int' {a b : Int} (h : a = b) : Ending.returned (.int .i64 a) = .returned (.int .i64 b) := by rw [h]

/-! ### consonants -/
def vow (b : UInt8) : Bool := b == 97 || b == 101 || b == 105 || b == 111 || b == 117
/-- consonantAfter. -/
def con (b : UInt8) (p : Bool) : Bool := if vow b then false else if b == 121 then !p else true

theorem u8_eq (b : UInt8) (n : Nat) (h : n < 256) : ((b.toNat : Int) == (n : Int)) = (b == UInt8.ofNat n) := by
  rw [Bool.eq_iff_iff, beq_iff_eq, beq_iff_eq, ← UInt8.toNat_inj]
  simp
  omega

theorem con_step {b : UInt8} {p v : Bool} {w : World} (hc : con b p = v)
    (h : Calls Try.prog 45 #[.int .u8 (b.toNat : Int), .bool p] w fun e w' => e = .returned (.bool v) ∧ w' = w) :
    Calls Try.prog 45 #[.int .u8 (b.toNat : Int), .bool p] w fun e w' => e = .returned (.bool (con b p)) ∧ w' = w := by rw [hc]; exact h

set_option maxHeartbeats 400000 in
theorem consonantAfter (b : UInt8) (p : Bool) (w : World) :
    Calls Try.prog 45 #[.int .u8 (b.toNat : Int), .bool p] w fun e w' => e = .returned (.bool (con b p)) ∧ w' = w := by
  have e97 : ((b.toNat : Int) == 97) = (b == 97) := u8_eq b 97 (by omega)
  have e101 : ((b.toNat : Int) == 101) = (b == 101) := u8_eq b 101 (by omega)
  have e105 : ((b.toNat : Int) == 105) = (b == 105) := u8_eq b 105 (by omega)
  have e111 : ((b.toNat : Int) == 111) = (b == 111) := u8_eq b 111 (by omega)
  have e117 : ((b.toNat : Int) == 117) = (b == 117) := u8_eq b 117 (by omega)
  have e121 : ((b.toNat : Int) == 121) = (b == 121) := u8_eq b 121 (by omega)
  have hcon : con b p = (if (b == 97 || b == 101 || b == 105 || b == 111 || b == 117) then false else if b == 121 then !p else true) := rfl
  generalize (b == 97) = x1 at *
  generalize (b == 101) = x2 at *
  generalize (b == 105) = x3 at *
  generalize (b == 111) = x4 at *
  generalize (b == 117) = x5 at *
  generalize (b == 121) = x6 at *
  cases x1
  · cases x2
    · cases x3
      · cases x4
        · cases x5
          · cases x6
            · refine con_step (v := true) (by rw [hcon]; rfl) ?_
              clear hcon
              go_enter Try.func45, Try.ntmps45
              go_wp2
              go_ret
              exact ⟨rfl, rfl⟩
            · refine con_step (v := !p) (by rw [hcon]; rfl) ?_
              clear hcon
              go_enter Try.func45, Try.ntmps45
              go_wp2
              go_ret
              exact ⟨rfl, rfl⟩
          · refine con_step (v := false) (by rw [hcon]; simp) ?_
            clear hcon e121
            go_enter Try.func45, Try.ntmps45
            go_wp2
            go_ret
            exact ⟨rfl, rfl⟩
        · refine con_step (v := false) (by rw [hcon]; simp) ?_
          clear hcon e121 e117
          go_enter Try.func45, Try.ntmps45
          go_wp2
          go_ret
          exact ⟨rfl, rfl⟩
      · refine con_step (v := false) (by rw [hcon]; simp) ?_
        clear hcon e121 e117 e111
        go_enter Try.func45, Try.ntmps45
        go_wp2
        go_ret
        exact ⟨rfl, rfl⟩
    · refine con_step (v := false) (by rw [hcon]; simp) ?_
      clear hcon e121 e117 e111 e105
      go_enter Try.func45, Try.ntmps45
      go_wp2
      go_ret
      exact ⟨rfl, rfl⟩
  · refine con_step (v := false) (by rw [hcon]; simp) ?_
    clear hcon e121 e117 e111 e105 e101
    go_enter Try.func45, Try.ntmps45
    go_wp2
    go_ret
    exact ⟨rfl, rfl⟩

/-! ### measure -/
def mstep (q : Nat × Bool × Bool) (b : UInt8) : Nat × Bool × Bool := (if q.2.2 && con b q.2.1 && !q.2.1 then q.1 + 1 else q.1, con b q.2.1, true)
def mfold (l : List UInt8) : Nat × Bool × Bool := l.foldl mstep (0, false, false)
/-- measure -/
def meas (l : List UInt8) : Nat := (mfold l).1
/-- The class of the last letter. -/
def cls (l : List UInt8) : Bool := (mfold l).2.1

theorem mfold_snoc (l : List UInt8) (b : UInt8) : mfold (l ++ [b]) = mstep (mfold l) b := by simp [mfold, List.foldl_append]
theorem mfold_take {l : List UInt8} {k : Nat} (h : k < l.length) : mfold (l.take (k + 1)) = mstep (mfold (l.take k)) l[k] := by
  rw [List.take_succ_eq_append_getElem h, mfold_snoc]
theorem started (l : List UInt8) : (mfold l).2.2 = decide (0 < l.length) := by
  rw [← List.reverse_reverse l]
  cases l.reverse with
  | nil => rfl
  | cons b r =>
    rw [List.reverse_cons, mfold_snoc]
    simp [mstep]
theorem cls_take {l : List UInt8} {k : Nat} (h : k < l.length) : cls (l.take (k + 1)) = con l[k] (cls (l.take k)) := by
  unfold cls
  rw [mfold_take h]
  rfl
theorem meas_take {l : List UInt8} {k : Nat} (h : k < l.length) : meas (l.take (k + 1)) = if decide (0 < k) && con l[k] (cls (l.take k)) && !cls (l.take k) then meas (l.take k) + 1 else meas (l.take k) := by
  unfold meas cls
  rw [mfold_take h]
  unfold mstep
  rw [started]
  have : (l.take k).length = k := by simp; omega
  rw [this]
theorem meas_le (l : List UInt8) (k : Nat) (hk : k ≤ l.length) : meas (l.take k) ≤ k := by
  induction k with
  | zero => simp [meas, mfold]
  | succ k ih =>
    have := ih (by omega)
    rw [meas_take (by omega)]
    split <;> omega
theorem meas_mono (l : List UInt8) (k : Nat) : meas (l.take k) ≤ meas l := by
  have key : ∀ d, meas (l.take k) ≤ meas (l.take (k + d)) := by
    intro d
    induction d with
    | zero => exact Nat.le_refl _
    | succ d ih =>
      by_cases h : k + d < l.length
      · have := meas_take h
        rw [← Nat.add_assoc]
        refine Nat.le_trans ih ?_
        rw [this]
        split <;> omega
      · rw [List.take_of_length_le (show l.length ≤ k + (d + 1) by omega)]
        rw [List.take_of_length_le (show l.length ≤ k + d by omega)] at ih
        exact ih
  have := key l.length
  rwa [List.take_of_length_le (show l.length ≤ k + l.length by omega)] at this

set_option maxHeartbeats 1000000 in
/-- (porterWord).measure -/
theorem measure (l : List UInt8) (w : World) (hl : l.length ≤ maxLen) :
    Calls Try.prog 38 #[.string (st l)] w fun e w' => e = .returned (.int .i64 (meas l)) ∧ w' = w := by
  unfold maxLen at hl
  go_enter Try.func38, Try.ntmps38
  go_wp2
  go_loop [3, 4, 9] (fun m c i => ∃ k : Nat, k ≤ l.length ∧ i = .int .i64 k ∧ m = .int .i64 (meas (l.take k)) ∧ c = .bool (cls (l.take k))) (fun _ _ i => l.length - (intOf i).toNat)
  case atStart => exact ⟨0, Nat.zero_le _, rfl, rfl, rfl⟩
  case round =>
    obtain ⟨k, hk, rfl, rfl, rfl⟩ := hrel
    by_cases hlt : k < l.length
    · have hm := meas_le l k hk
      have HM := meas_take hlt
      have HC := cls_take hlt
      generalize hn : meas (l.take k) = n at *
      generalize hp : cls (l.take k) = p at *
      have hca := consonantAfter l[k] p w
      generalize hc : con l[k] p = c at *
      have HM' : Hid (meas (l.take (k + 1)) = if decide (0 < k) && c && !p then n + 1 else n) := HM
      have HC' : Hid (cls (l.take (k + 1)) = c) := HC
      have HCA : Hid (Calls Try.prog 45 #[.int .u8 (l[k].toNat : Int), .bool p] w fun e w' => e = .returned (.bool c) ∧ w' = w) := hca
      clear HM HC hca hn hp hc
      cases p <;> cases c <;> by_cases hk0 : (0 : Int) < (k : Int)
      all_goals
        go_wp2_with (go_at_call 45; refine HCA.out.mono ?_; rintro e w1 ⟨rfl, rfl⟩)
        go_round
        case rel => exact ⟨k + 1, by omega, by go_num, by rw [HM'.out]; split <;> first | rfl | go_num | (exfalso; rename_i h; simp at h; done) | (exfalso; rename_i h; simp at h; omega), by rw [HC'.out]⟩
        case measure => simp [intOf]; omega
    · have ek : l.take k = l := List.take_of_length_le (by omega)
      rw [ek]
      clear ek
      go_wp2
      go_ret
      exact ⟨rfl, rfl⟩

end Go.Proofs.Qxb6603282a
