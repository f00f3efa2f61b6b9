import Derived.Test.Qxb6603282aRules
namespace Go.Proofs.Qxb6603282a
open Go.RowKit
attribute [local go_sem] st_size st_toList st_get st_extract st_append

set_option maxHeartbeats 800000 in
/-- zzRulesBytes: some number of modest size. -/
theorem rulesBytes {w : World} (l : List UInt8) (p : Option Addr) (c : Nat) {rs : List Rule} (hx : HR w p rs) (hrs : rs.length ≤ 1048576) :
    Calls Try.prog 16 #[.string (st l), .slice p rs.length c] w fun e w' => ∃ r : Nat, e = .returned (.int .i64 r) ∧ r ≤ 100000000 ∧ w' = w := by
  by_cases h1 : (1048576 : Int) < (l.length : Int)
  · clear hx
    go_enter Try.func16, Try.ntmps16
    go_wp2
    go_ret
    exact ⟨1048577, rfl, by omega, rfl⟩
  · go_enter Try.func16, Try.ntmps16
    go_wp2
    go_loop [5, 6] (fun t i => ∃ k r : Nat, k ≤ rs.length ∧ i = .int .i64 k ∧ t = .int .i64 r ∧ r ≤ 100000000) (fun _ i => rs.length - (intOf i).toNat)
    case atStart => exact ⟨0, l.length + 40 * rs.length, Nat.zero_le _, rfl, by go_num, by omega⟩
    case round =>
      obtain ⟨k, r, hk, rfl, rfl, hr⟩ := hrel
      by_cases hlt : k < rs.length
      · obtain ⟨b, off, hp, c0, c1, c2⟩ := hx k hlt
        subst hp
        clear hx c0
        generalize rs[k].2.1 = s1 at c1
        generalize rs[k].2.2 = s2 at c2
        by_cases g0 : (1048576 : Int) < (r : Int)
        · go_wp2
          go_ret
          exact ⟨r, rfl, by omega, rfl⟩
        · by_cases g1 : (1048576 : Int) < (s1.length : Int)
          · go_wp2
            go_ret
            exact ⟨1048577, rfl, by omega, rfl⟩
          · by_cases g2 : (1048576 : Int) < (s2.length : Int)
            · go_wp2
              go_ret
              exact ⟨1048577, rfl, by omega, rfl⟩
            · go_wp2
              go_round
              case rel => exact ⟨k + 1, r + (s1.length + s2.length), by omega, by go_num, by go_num, by omega⟩
              case measure => simp [intOf]; omega
      · clear hx
        go_wp2
        go_ret
        exact ⟨r, rfl, by omega, rfl⟩

theorem infoU8 : (Try.prog.info? 5).map (fun i => (i.zero, i.size, i.bytes)) = some (some (.int .u8 0), 1, 1) := by kernel_rfl
theorem info9 : (Try.prog.info? 9).map (fun i => (i.zero, i.size, i.bytes)) = some (some (.string ByteArray.empty), 1, 16) := by kernel_rfl

/-- What zzSplitRules has made by round k. -/
def SplitInv (w : World) (rs : List Rule) (k : Nat) (wr : World) : Prop :=
  ∃ f g h : Nat → Value, wr.rowIs w.heap.size 5 rs.length f ∧ wr.rowIs (w.heap.size + 1) 9 rs.length g ∧ wr.rowIs (w.heap.size + 2) 9 rs.length h ∧ Below w.heap.size w wr ∧
    ∀ j (hj : j < rs.length), j < k → f j = .int .u8 (rs[j].1.toNat : Int) ∧ g j = .string (st rs[j].2.1) ∧ h j = .string (st rs[j].2.2)

theorem SplitInv.start (w : World) (rs : List Rule) : SplitInv w rs 0
    (((w.alloc (.cells (madeCells #[.int .u8 0] rs.length) 5)).alloc (.cells (madeCells #[.string ByteArray.empty] rs.length) 9)).alloc (.cells (madeCells #[.string ByteArray.empty] rs.length) 9)) := by
  have r1 := World.rowIs_made w (.int .u8 0) rs.length 5
  have r2 := World.rowIs_made (w.alloc (.cells (madeCells #[.int .u8 0] rs.length) 5)) (.string ByteArray.empty) rs.length 9
  have r3 := World.rowIs_made ((w.alloc (.cells (madeCells #[.int .u8 0] rs.length) 5)).alloc (.cells (madeCells #[.string ByteArray.empty] rs.length) 9)) (.string ByteArray.empty) rs.length 9
  refine ⟨fun _ => .int .u8 0, fun _ => .string ByteArray.empty, fun _ => .string ByteArray.empty, (r1.alloc _).alloc _, ?_, ?_, (((Below.refl _ _).alloc (Nat.le_refl _) _).alloc (by simp) _).alloc (by simp; omega) _, by simp⟩
  · have := r2.alloc (.cells (madeCells #[.string ByteArray.empty] rs.length) 9)
    simpa using this
  · simpa using r3

theorem SplitInv.step {w wr : World} {rs : List Rule} {k : Nat} (h : SplitInv w rs k wr) (hk : k < rs.length) :
    SplitInv w rs (k + 1) (((wr.setCell ⟨w.heap.size, k, none⟩ (.int .u8 (rs[k].1.toNat : Int))).setCell ⟨w.heap.size + 1, k, none⟩ (.string (st rs[k].2.1))).setCell ⟨w.heap.size + 2, k, none⟩ (.string (st rs[k].2.2))) := by
  obtain ⟨f, g, h', r1, r2, r3, hb, hall⟩ := h
  refine ⟨_, _, _, ((r1.set k _).setOther (by simp) _).setOther (by simp) _, ((r2.setOther (by simp) _).set k _).setOther (by simp) _, ((r3.setOther (by simp) _).setOther (by simp) _).set k _,
    ((hb.setCell (Nat.le_refl _) _).setCell (by simp) _).setCell (by simp) _, fun j hj hjk => ?_⟩
  by_cases e : j = k
  · subst e
    simp
  · simp only [if_neg e]
    exact hall j hj (by omega)

set_option maxHeartbeats 800000 in
/-- zzSplitRules -/
theorem splitRules {w : World} (p : Option Addr) (c : Nat) {rs : List Rule} (hx : HR w p rs) (hrs : rs.length ≤ 1048576) :
    Calls Try.prog 17 #[.slice p rs.length c] w fun e w' => e = .returned (.tuple #[.slice (some ⟨w.heap.size, 0, none⟩) rs.length rs.length, .slice (some ⟨w.heap.size + 1, 0, none⟩) rs.length rs.length, .slice (some ⟨w.heap.size + 2, 0, none⟩) rs.length rs.length]) ∧ SplitInv w rs rs.length w' := by
  have hmk1 := run_make_row' (P := Try.prog) 28 5 (.int .u8 0) 1 Try.underlying28 infoU8 rfl .i64 .i64 rs.length (by omega) (by omega)
  have hmk2 := run_make_row' (P := Try.prog) 29 9 (.string ByteArray.empty) 16 Try.underlying29 info9 rfl .i64 .i64 rs.length (by omega) (by omega)
  have HST : Hid (SplitInv w rs 0 _) := SplitInv.start w rs
  go_enter Try.func17, Try.ntmps17
  go_wp2
  go_loopw [8] (fun i wr => ∃ k : Nat, k ≤ rs.length ∧ i = .int .i64 k ∧ SplitInv w rs k wr) (fun i _ => rs.length - (intOf i).toNat)
  case atStart => exact ⟨0, Nat.zero_le _, rfl, HST.out⟩
  case round =>
    clear HST
    obtain ⟨k, hk, rfl, hinv⟩ := hrel
    by_cases hlt : k < rs.length
    · have HI : Hid (SplitInv w rs (k + 1) _) := hinv.step hlt
      obtain ⟨f, g, h, r1, r2, r3, hb, _⟩ := hinv
      obtain ⟨b, off, hp, c0, c1, c2⟩ := (hx.below hb (Nat.le_refl _)) k hlt
      have hblt : b < w.heap.size := by
        obtain ⟨b', off', hp', c0', _⟩ := hx k hlt
        rw [hp] at hp'
        simp only [Option.some.injEq, Addr.mk.injEq, and_true] at hp'
        rw [hp'.1]
        exact World.block_lt_of_cell? w _ c0'
      subst hp
      have x1 := r1.cell hlt
      have x2 := r2.cell hlt
      have x3 := r3.cell hlt
      have y1 := r1.frozen k
      have y2 := r2.frozen k
      have y3 := r3.frozen k
      have hsz := r3.lt
      clear r1 r2 r3 hb hx hmk1 hmk2
      go_wp2
      go_roundw
      case rel => exact ⟨k + 1, by omega, by go_num, HI.out⟩
      case measure => simp [intOf]; omega
    · clear hx
      go_wp2
      go_ret3
      have ek : k = rs.length := by omega
      subst ek
      exact ⟨rfl, hinv⟩

end Go.Proofs.Qxb6603282a
