import Derived.Test.Qxb6603282aPorterB
import Derived.Deep.OwnRows
namespace Go.Proofs.Qxb6603282a
open Go.RowKit
attribute [local go_sem] st_size st_toList st_get st_extract st_append

theorem vow_step {b : UInt8} {v : Bool} {w : World} (hc : vow b = v)
    (h : Calls Try.prog 49 #[.int .u8 (b.toNat : Int)] w fun e w' => e = .returned (.bool v) ∧ w' = w) :
    Calls Try.prog 49 #[.int .u8 (b.toNat : Int)] w fun e w' => e = .returned (.bool (vow b)) ∧ w' = w := by rw [hc]; exact h

set_option maxHeartbeats 400000 in
/-- zzVowelLetter -/
theorem vowelLetter (b : UInt8) (w : World) :
    Calls Try.prog 49 #[.int .u8 (b.toNat : Int)] w fun e w' => e = .returned (.bool (vow b)) ∧ w' = w := by
  have e97 : ((b.toNat : Int) == 97) = (b == 97) := u8_eq b 97 (by omega)
  have e101 : ((b.toNat : Int) == 101) = (b == 101) := u8_eq b 101 (by omega)
  have e105 : ((b.toNat : Int) == 105) = (b == 105) := u8_eq b 105 (by omega)
  have e111 : ((b.toNat : Int) == 111) = (b == 111) := u8_eq b 111 (by omega)
  have e117 : ((b.toNat : Int) == 117) = (b == 117) := u8_eq b 117 (by omega)
  have hvow : vow b = (b == 97 || b == 101 || b == 105 || b == 111 || b == 117) := rfl
  generalize (b == 97) = x1 at *
  generalize (b == 101) = x2 at *
  generalize (b == 105) = x3 at *
  generalize (b == 111) = x4 at *
  generalize (b == 117) = x5 at *
  cases x1
  · cases x2
    · cases x3
      · cases x4
        · cases x5
          · refine vow_step (v := false) (by rw [hvow]; rfl) ?_
            clear hvow
            go_enter Try.func49, Try.ntmps49
            go_wp2
            go_ret
            exact ⟨rfl, rfl⟩
          · refine vow_step (v := true) (by rw [hvow]; rfl) ?_
            clear hvow
            go_enter Try.func49, Try.ntmps49
            go_wp2
            go_ret
            exact ⟨rfl, rfl⟩
        · refine vow_step (v := true) (by rw [hvow]; simp) ?_
          clear hvow e117
          go_enter Try.func49, Try.ntmps49
          go_wp2
          go_ret
          exact ⟨rfl, rfl⟩
      · refine vow_step (v := true) (by rw [hvow]; simp) ?_
        clear hvow e117 e111
        go_enter Try.func49, Try.ntmps49
        go_wp2
        go_ret
        exact ⟨rfl, rfl⟩
    · refine vow_step (v := true) (by rw [hvow]; simp) ?_
      clear hvow e117 e111 e105
      go_enter Try.func49, Try.ntmps49
      go_wp2
      go_ret
      exact ⟨rfl, rfl⟩
  · refine vow_step (v := true) (by rw [hvow]; simp) ?_
    clear hvow e117 e111 e105 e101
    go_enter Try.func49, Try.ntmps49
    go_wp2
    go_ret
    exact ⟨rfl, rfl⟩

theorem info4 : (Try.prog.info? 4).map (fun i => (i.zero, i.size, i.bytes)) = some (some (.bool false), 1, 1) := by kernel_rfl

theorem cAt_vow {l : List UInt8} {k : Nat} (h : k < l.length) (hv : vow l[k] = true) : cAt l k = false := by
  unfold cAt
  rw [cls_take h]
  simp [con, hv]
theorem cAt_other {l : List UInt8} {k : Nat} (h : k < l.length) (hv : vow l[k] = false) (hy : (l[k] == 121) = false) : cAt l k = true := by
  unfold cAt
  rw [cls_take h]
  simp [con, hv, hy]
theorem cAt_y0 {l : List UInt8} (h : 0 < l.length) (hv : vow l[0] = false) (hy : (l[0] == 121) = true) : cAt l 0 = true := by
  rw [cAt_zero h]
  simp [con, hv, hy]
theorem cAt_y {l : List UInt8} {k : Nat} (h : k < l.length) (h0 : 0 < k) (hv : vow l[k] = false) (hy : (l[k] == 121) = true) : cAt l k = !cAt l (k - 1) := by
  obtain ⟨j, rfl⟩ : ∃ j, k = j + 1 := ⟨k - 1, by omega⟩
  rw [cAt_step h]
  simp [con, hv, hy]

/-- What zzConsonants has made by round k. -/
def ConsInv (w : World) (l : List UInt8) (k : Nat) (wr : World) : Prop :=
  ∃ f : Nat → Value, wr.rowIs w.heap.size 4 l.length f ∧ (∀ j, j < k → f j = .bool (cAt l j)) ∧ Below w.heap.size w wr

theorem ConsInv.step {w wr : World} {l : List UInt8} {k : Nat} {b : Bool} (h : ConsInv w l k wr) (hb : cAt l k = b) : ConsInv w l (k + 1) (wr.setCell ⟨w.heap.size, k, none⟩ (.bool b)) := by
  obtain ⟨f, h1, h2, h3⟩ := h
  refine ⟨_, h1.set k _, fun j hj => ?_, h3.setCell (Nat.le_refl _) _⟩
  by_cases e : j = k
  · subst e; simp [hb]
  · simp only [if_neg e]; exact h2 j (by omega)

theorem ConsInv.done {w wr : World} {l : List UInt8} (h : ConsInv w l l.length wr) : wr.rowIs w.heap.size 4 l.length (fun j => .bool (cAt l j)) ∧ Below w.heap.size w wr := by
  obtain ⟨f, h1, h2, h3⟩ := h
  exact ⟨h1.congr h2, h3⟩

set_option maxHeartbeats 800000 in
/-- zzConsonants -/
theorem consonants (l : List UInt8) (w : World) (hl : l.length ≤ 1048576) :
    Calls Try.prog 44 #[.string (st l)] w fun e w' => e = .returned (.slice (some ⟨w.heap.size, 0, none⟩) l.length l.length) ∧ w'.rowIs w.heap.size 4 l.length (fun j => .bool (cAt l j)) ∧ Below w.heap.size w w' := by
  have hmk := run_make_row' (P := Try.prog) 35 4 (.bool false) 1 Try.underlying35 info4 rfl .i64 .i64 l.length (by omega) (by omega)
  go_enter Try.func44, Try.ntmps44
  go_wp2
  go_loopw [4] (fun i wr => ∃ k : Nat, k ≤ l.length ∧ i = .int .i64 k ∧ ConsInv w l k wr) (fun i _ => l.length - (intOf i).toNat)
  case atStart => exact ⟨0, Nat.zero_le _, rfl, _, World.rowIs_made _ _ _ _, fun j hj => by omega, (Below.refl _ _).alloc (Nat.le_refl _) _⟩
  case round =>
    clear hmk
    obtain ⟨k, hk, rfl, hinv⟩ := hrel
    by_cases hlt : k < l.length
    · have hst := fun b hb => hinv.step (b := b) hb
      obtain ⟨f, r1, r2, r3⟩ := hinv
      have cK := r1.cell hlt
      have fK := r1.frozen k
      have HVL : Hid (Calls Try.prog 49 #[.int .u8 (l[k].toNat : Int)] wr fun e w' => e = .returned (.bool (vow l[k])) ∧ w' = wr) := vowelLetter l[k] wr
      have e121 : ((l[k].toNat : Int) == 121) = (l[k] == 121) := u8_eq l[k] 121 (by omega)
      cases hv : vow l[k] with
      | true =>
        rw [hv] at HVL
        have HI : Hid (ConsInv w l (k + 1) (wr.setCell ⟨w.heap.size, k, none⟩ (.bool false))) := hst _ (cAt_vow hlt hv)
        clear hst r1 r2 r3 e121 hv
        go_wp2_with (go_at_call 49; refine HVL.out.mono ?_; rintro e w1 ⟨rfl, rfl⟩)
        go_roundw
        case rel => exact ⟨k + 1, by omega, by go_num, HI.out⟩
        case measure => simp [intOf]; omega
      | false =>
        rw [hv] at HVL
        cases hy : (l[k] == 121) with
        | false =>
          rw [hy] at e121
          have HI : Hid (ConsInv w l (k + 1) (wr.setCell ⟨w.heap.size, k, none⟩ (.bool true))) := hst _ (cAt_other hlt hv hy)
          clear hst r1 r2 r3 hv hy
          go_wp2_with (go_at_call 49; refine HVL.out.mono ?_; rintro e w1 ⟨rfl, rfl⟩)
          go_roundw
          case rel => exact ⟨k + 1, by omega, by go_num, HI.out⟩
          case measure => simp [intOf]; omega
        | true =>
          rw [hy] at e121
          by_cases h0 : k = 0
          · subst h0
            have HI : Hid (ConsInv w l (0 + 1) (wr.setCell ⟨w.heap.size, 0, none⟩ (.bool true))) := hst _ (cAt_y0 hlt hv hy)
            clear hst r1 r2 r3 hv hy
            go_wp2_with (go_at_call 49; refine HVL.out.mono ?_; rintro e w1 ⟨rfl, rfl⟩)
            go_roundw
            case rel => exact ⟨0 + 1, by omega, by go_num, HI.out⟩
            case measure => simp [intOf]; omega
          · have hk0 : ((k : Int) == 0) = false := by rw [beq_eq_false_iff_ne]; omega
            have hkp : 0 < k := by omega
            have HI : Hid (ConsInv w l (k + 1) (wr.setCell ⟨w.heap.size, k, none⟩ (.bool (!cAt l (k - 1))))) := hst _ (cAt_y hlt hkp hv hy)
            have cP := r1.cell (show k - 1 < l.length by omega)
            rw [r2 (k - 1) (by omega)] at cP
            generalize cAt l (k - 1) = pb at *
            clear hst r1 r2 r3 hv hy h0
            go_wp2_with (go_at_call 49; refine HVL.out.mono ?_; rintro e w1 ⟨rfl, rfl⟩)
            go_roundw
            case rel => exact ⟨k + 1, by omega, by go_num, HI.out⟩
            case measure => simp [intOf]; omega
    · have ek : k = l.length := by omega
      have HD : Hid (wr.rowIs w.heap.size 4 l.length (fun j => .bool (cAt l j)) ∧ Below w.heap.size w wr) := by rw [ek] at hinv; exact hinv.done
      clear hinv ek
      go_wp2
      go_ret
      exact ⟨rfl, HD.out⟩

end Go.Proofs.Qxb6603282a
