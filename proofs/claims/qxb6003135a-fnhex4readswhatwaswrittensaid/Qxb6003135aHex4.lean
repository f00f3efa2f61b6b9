import Derived.Test.Qxb6003135aDigits
namespace Go.Proofs.Qxb6003135a
open Go.RowKit

/-- The number that digits spell. -/
def acc (l : List UInt8) : Nat := l.foldl (fun a c => 16 * a + (hv c).getD 0) 0
/-- All are digits. -/
def digits (l : List UInt8) : Bool := l.all fun c => (hv c).isSome
/-- hex4's two answers. -/
def ok4 (l : List UInt8) : Bool := decide (4 ≤ l.length) && digits (l.take 4)
def r4 (l : List UInt8) : Nat := if ok4 l then acc (l.take 4) else 0

theorem acc_succ {l : List UInt8} {k : Nat} (h : k < l.length) : acc (l.take (k + 1)) = 16 * acc (l.take k) + (hv l[k]).getD 0 := by
  rw [List.take_succ_eq_append_getElem h]
  simp only [acc, List.foldl_append, List.foldl_cons, List.foldl_nil]

theorem digits_succ {l : List UInt8} {k : Nat} (h : k < l.length) : digits (l.take (k + 1)) = (digits (l.take k) && (hv l[k]).isSome) := by
  rw [List.take_succ_eq_append_getElem h]
  simp only [digits, List.all_append, List.all_cons, List.all_nil, Bool.and_true]

theorem hv_lt' (c : UInt8) : (hv c).getD 0 < 16 := by
  cases h : hv c with
  | none => simp
  | some d => simpa using hv_lt h

theorem acc_lt (l : List UInt8) (k : Nat) : acc (l.take k) < 16 ^ k := by
  induction k with
  | zero => simp [acc]
  | succ k ih =>
    by_cases h : k < l.length
    · rw [acc_succ h]
      have := hv_lt' l[k]
      omega
    · rw [List.take_of_length_le (by omega)] at ih ⊢
      omega

theorem hv_a {c : UInt8} (h1 : 48 ≤ (c.toNat : Int)) (h2 : (c.toNat : Int) ≤ 57) : hv c = some (c.toNat - 48) := by
  have a1 : 48 ≤ c := by rw [UInt8.le_iff_toNat_le]; simp; omega
  have a2 : c ≤ 57 := by rw [UInt8.le_iff_toNat_le]; simp; omega
  unfold hv
  rw [if_pos ⟨a1, a2⟩]

theorem hv_b {c : UInt8} (h1 : 97 ≤ (c.toNat : Int)) (h2 : (c.toNat : Int) ≤ 102) : hv c = some (c.toNat - 87) := by
  have a0 : ¬ c ≤ 57 := by rw [UInt8.le_iff_toNat_le]; simp; omega
  have a1 : 97 ≤ c := by rw [UInt8.le_iff_toNat_le]; simp; omega
  have a2 : c ≤ 102 := by rw [UInt8.le_iff_toNat_le]; simp; omega
  unfold hv
  rw [if_neg (fun h => a0 h.2), if_pos ⟨a1, a2⟩]

theorem hv_c {c : UInt8} (h1 : 65 ≤ (c.toNat : Int)) (h2 : (c.toNat : Int) ≤ 70) : hv c = some (c.toNat - 55) := by
  have a0 : ¬ c ≤ 57 := by rw [UInt8.le_iff_toNat_le]; simp; omega
  have a3 : ¬ 97 ≤ c := by rw [UInt8.le_iff_toNat_le]; simp; omega
  have a1 : 65 ≤ c := by rw [UInt8.le_iff_toNat_le]; simp; omega
  have a2 : c ≤ 70 := by rw [UInt8.le_iff_toNat_le]; simp; omega
  unfold hv
  rw [if_neg (fun h => a0 h.2), if_neg (fun h => a3 h.1), if_pos ⟨a1, a2⟩]

theorem hv_n {c : UInt8} (h1 : ¬ (48 ≤ (c.toNat : Int) ∧ (c.toNat : Int) ≤ 57)) (h2 : ¬ (97 ≤ (c.toNat : Int) ∧ (c.toNat : Int) ≤ 102)) (h3 : ¬ (65 ≤ (c.toNat : Int) ∧ (c.toNat : Int) ≤ 70)) : hv c = none := by
  have e : ∀ a b : UInt8, (a ≤ c ∧ c ≤ b) → (a.toNat : Int) ≤ c.toNat ∧ (c.toNat : Int) ≤ b.toNat := by
    intro a b h
    rw [UInt8.le_iff_toNat_le, UInt8.le_iff_toNat_le] at h
    omega
  unfold hv
  rw [if_neg (fun h => h1 (e 48 57 h)), if_neg (fun h => h2 (e 97 102 h)), if_neg (fun h => h3 (e 65 70 h))]

theorem good {l : List UInt8} {k d : Nat} (hk : k < 4) (hl : k < l.length) (hd : digits (l.take k) = true) (hn : hv l[k] = some d) :
    digits (l.take (k + 1)) = true ∧ bits .or .i32 (wrap32 ((acc (l.take k) : Nat) * 16)) (d : Int) = (acc (l.take (k + 1)) : Nat) := by
  rw [digits_succ hl, acc_succ hl, hd, hn]
  refine ⟨rfl, ?_⟩
  have h1 := acc_lt l k
  have h2 : 16 ^ k ≤ 16 ^ 3 := Nat.pow_le_pow_right (by omega) (by omega)
  have h3 := hv_lt hn
  have h4 : wrap32 ((acc (l.take k) : Nat) * 16) = (acc (l.take k) : Nat) * 16 := by unfold wrap32; omega
  rw [h4, bits_join .i32 31 (by decide) wraps_i32 4 _ _ (by omega) (by omega) (by omega) (by omega) (by omega) (by omega)]
  simp
  omega

theorem bad {l : List UInt8} {k : Nat} (hk : k < 4) (hl : 4 ≤ l.length) (hn : hv (l[k]'(by omega)) = none) : ok4 l = false ∧ r4 l = 0 := by
  have h1 : ok4 l = false := by
    cases e : ok4 l with
    | false => rfl
    | true =>
      simp only [ok4, digits, Bool.and_eq_true, List.all_eq_true] at e
      have := e.2 (l[k]'(by omega)) (List.mem_take_iff_getElem.2 ⟨k, by omega, rfl⟩)
      rw [hn] at this
      cases this
  exact ⟨h1, by unfold r4; rw [h1]; rfl⟩

set_option maxHeartbeats 400000 in
theorem hex4_short (p : Option Addr) (n c : Nat) (w : World) (h : n < 4) :
    Calls Try.prog 15 #[.slice p n c] w fun e w' => e = .returned (.tuple #[.int .i32 0, .bool false]) ∧ w' = w := by
  have h1 : (n : Int) < 4 := by omega
  go_enter Try.func15, Try.ntmps15
  go_wp2
  go_ret2
  exact ⟨rfl, rfl⟩

set_option maxHeartbeats 400000 in
theorem hex4_long (b off cap : Nat) (l : List UInt8) (w : World) (h : 4 ≤ l.length) (hcap : l.length ≤ cap)
    (hc : ∀ i (h : i < l.length), w.cell? ⟨b, off + i, none⟩ = some (.int .u8 (l[i].toNat : Int))) :
    Calls Try.prog 15 #[.slice (some ⟨b, off, none⟩) l.length cap] w fun e w' => e = .returned (.tuple #[.int .i32 (r4 l : Nat), .bool (ok4 l)]) ∧ w' = w := by
  have h1 : ¬ (l.length : Int) < 4 := by omega
  have h2 : ¬ (cap : Int) < 4 := by omega
  go_enter Try.func15, Try.ntmps15
  go_wp2
  go_loopw [4, 13] (fun r i wr => ∃ k : Nat, k ≤ 4 ∧ i = .int .i64 k ∧ r = .int .i32 (acc (l.take k) : Nat) ∧ digits (l.take k) = true ∧ wr = w) (fun _ i _ => 4 - (intOf i).toNat)
  case atStart => exact ⟨0, by omega, rfl, rfl, rfl, rfl⟩
  case round =>
    obtain ⟨k, hk, rfl, rfl, hd, rfl⟩ := hrel
    have HD : Hid (digits (l.take k) = true) := hd
    clear hd
    by_cases hlt : k < 4
    · have hcell := hc k (by omega)
      clear hc
      have hl : k < l.length := by omega
      go_wp2
      all_goals first
        | (obtain ⟨g1, g2⟩ := good hlt hl HD.out (hv_a (by omega) (by omega))
           have e1 : ((l[k].toNat - 48 : Nat) : Int) = (l[k].toNat : Int) - 48 := by omega
           rw [e1] at g2
           go_roundw
           case rel => exact ⟨k + 1, by omega, by go_num, by rw [g2], g1, trivial⟩
           case measure => simp [intOf]; omega)
        | (obtain ⟨g1, g2⟩ := good hlt hl HD.out (hv_b (by omega) (by omega))
           have e1 : ((l[k].toNat - 87 : Nat) : Int) = (l[k].toNat : Int) - 87 := by omega
           rw [e1] at g2
           go_roundw
           case rel => exact ⟨k + 1, by omega, by go_num, by rw [g2], g1, trivial⟩
           case measure => simp [intOf]; omega)
        | (obtain ⟨g1, g2⟩ := good hlt hl HD.out (hv_c (by omega) (by omega))
           have e1 : ((l[k].toNat - 55 : Nat) : Int) = (l[k].toNat : Int) - 55 := by omega
           rw [e1] at g2
           go_roundw
           case rel => exact ⟨k + 1, by omega, by go_num, by rw [g2], g1, trivial⟩
           case measure => simp [intOf]; omega)
        | (obtain ⟨g1, g2⟩ := bad hlt h (hv_n (by omega) (by omega) (by omega))
           rw [g1, g2]
           go_ret2
           exact ⟨rfl, rfl⟩)
    · clear hc
      obtain rfl : k = 4 := by omega
      have hok : ok4 l = true := by simp [ok4, h, HD.out]
      have hr : r4 l = acc (l.take 4) := by simp [r4, hok]
      have fin : Ending.returned (.tuple #[.int .i32 (acc (l.take 4) : Nat), .bool true]) = .returned (.tuple #[.int .i32 (r4 l : Nat), .bool (ok4 l)]) := by rw [hok, hr]
      clear hok hr
      go_wp2
      go_ret2
      exact ⟨fin, rfl⟩

/-- hex4. -/
theorem hex4 {w : World} {v : Value} {l : List UInt8} (hb : HB w v l) :
    Calls Try.prog 15 #[v] w fun e w' => e = .returned (.tuple #[.int .i32 (r4 l : Nat), .bool (ok4 l)]) ∧ w' = w := by
  by_cases h : 4 ≤ l.length
  · rcases hb with ⟨rfl, _⟩ | ⟨b, off, cap, h0, rfl, h1, h2, hc⟩
    · simp at h
    · exact hex4_long b off cap l w h h1 hc
  · have hok : ok4 l = false := by simp [ok4, h]
    have hr : r4 l = 0 := by simp [r4, hok]
    obtain ⟨p, c, rfl⟩ := hb.shape
    rw [hok, hr]
    exact hex4_short p _ c w (by omega)

set_option maxHeartbeats 400000 in
/-- ZZhex4. -/
theorem zzhex4 {w : World} {v : Value} {l : List UInt8} (hb : HB w v l) :
    Calls Try.prog 8 #[v] w fun e w' => e = .returned (.tuple #[.int .i32 (r4 l : Nat), .bool (ok4 l)]) ∧ w' = w := by
  have HX : Hid (Calls Try.prog 15 #[v] w fun e w' => e = .returned (.tuple #[.int .i32 (r4 l : Nat), .bool (ok4 l)]) ∧ w' = w) := hex4 hb
  obtain ⟨p, c, rfl⟩ := hb.shape
  clear hb
  go_enter Try.func8, Try.ntmps8
  go_wp2_with (go_at_call 15; refine HX.out.mono ?_; rintro e w1 ⟨rfl, rfl⟩)
  go_ret2
  exact ⟨rfl, rfl⟩

end Go.Proofs.Qxb6003135a
