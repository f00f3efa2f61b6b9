import Derived.Test.Qxb6003135aNibble
namespace Go.Proofs.Qxb6003135a
open Go.RowKit

theorem hid {p : Prop} (h : p) : Hid p := h

/-- The new buffer at w2's end holds the bytes L; nothing older has turned. -/
def St (w2 : World) (m : Nat) (L : List UInt8) (w : World) : Prop := RB w w2.heap.size L ∧ L.length = 4 + m ∧ Below w2.heap.size w2 w

theorem St.start (w2 : World) (m : Nat) : St w2 m (List.replicate (4 + m) 0) (w2.alloc (.cells (madeCells #[Value.int .u8 0] (4 + m)) 5)) :=
  ⟨RB.made (World.rowIs_made _ _ _ _), by simp, (Below.refl _ _).alloc (Nat.le_refl _) _⟩

theorem St.set {w2 w : World} {m : Nat} {L : List UInt8} (h : St w2 m L w) (k : Nat) (x : UInt8) : St w2 m (L.set k x) (w.setCell ⟨w2.heap.size, k, none⟩ (.int .u8 (x.toNat : Int))) :=
  ⟨h.1.set k x, by simp [h.2.1], h.2.2.setCell (Nat.le_refl _) _⟩

theorem St.cell {w2 w : World} {m : Nat} {L : List UInt8} (h : St w2 m L w) {k : Nat} (hk : k < 4 + m) : w.cell? ⟨w2.heap.size, k, none⟩ = some (.int .u8 ((L.getD k 0).toNat : Int)) ∧ w.frozen? ⟨w2.heap.size, k, none⟩ = false := by
  have h1 := World.rowIs.cell h.1 (i := k) (by rw [h.2.1]; exact hk)
  exact ⟨by simpa using h1, World.rowIs.frozen h.1 k⟩

/-- The four digits of u. -/
def four (u : Nat) (up : Bool) : List UInt8 := [nd (u / 4096) up, nd (u / 256 % 16) up, nd (u / 16 % 16) up, nd (u % 16) up]

theorem four_start (m : Nat) (a b c d : UInt8) : (((((List.replicate (4 + m) (0 : UInt8)).set 0 a).set 1 b).set 2 c).set 3 d).take 4 = [a, b, c, d] := by
  rw [show 4 + m = m + 1 + 1 + 1 + 1 by omega]
  simp [List.replicate_succ]

theorem four_set {L F : List UInt8} (h : L.take 4 = F) (k : Nat) (x : UInt8) : (L.set (4 + k) x).take 4 = F := by
  rw [← h]
  apply List.ext_getElem?
  intro i
  rw [List.getElem?_take, List.getElem?_take]
  split
  · rw [List.getElem?_set_ne (by omega)]
  · rfl

set_option maxHeartbeats 800000 in
set_option maxRecDepth 100000 in
theorem reads_small (u : Nat) (up : Bool) (p : Option Addr) (n c : Nat) (l : List UInt8) (w : World) (hu : u < 65536) (hb : HB w (.slice p n c) l) (hs : l.length ≤ 1048576) :
    Calls Try.prog 4 #[.int .u16 (u : Int), .bool up, .slice p n c] w fun e w' => e = .returned (.bool true) ∧ Below w.heap.size w w' := by
  obtain ⟨rfl, hm⟩ := hb.small
  have h1 : decide (l.length ≤ 1048576) = true := by simp [hs]
  have h2 : ¬ (l.length : Int) > 1048576 := by omega
  have HS : Hid (Calls Try.prog 10 #[.int .u16 (u : Int), .bool up, .slice p l.length c] w fun e w' => e = .returned (.bool true) ∧ w' = w) := by
    have := small10 (.int .u16 (u : Int)) (.bool up) p l.length c w hm
    rw [h1] at this
    exact this
  have HC : Hid (Calls Try.prog 7 #[.slice p l.length c] w fun e w' => ∃ v', e = .returned v' ∧ HB w' v' l ∧ Below w.heap.size w w') := cloneBytes hb hs
  have hmk := run_make_row' (P := Try.prog) 22 5 (.int .u8 0) 1 Try.underlying22 info5 rfl .i64 .i64 (4 + l.length) (by omega) (by omega)
  rw [show ((4 + l.length : Nat) : Int) = 4 + (l.length : Int) by omega] at hmk
  clear hb hm h1
  go_enter Try.func4, Try.ntmps4
  go_wp2_with (first
      | (go_at_call 10; refine HS.out.mono ?_; rintro e w1 ⟨rfl, rfl⟩)
      | (go_at_call 7; refine HC.out.mono ?_; rintro e w2 ⟨v', rfl, hb2, hbel⟩; obtain ⟨p2, c2, rfl⟩ := hb2.shape; have HB2 := hid hb2.cells; have HL := hid hbel; clear hb2 hbel))
  have e0 : ((u : Int) / 4096) = ((u / 4096 : Nat) : Int) := by omega
  have s0 := hid (St.start w2 l.length)
  obtain ⟨w3, hw3⟩ : ∃ w3, w3 = w2.alloc (.cells (madeCells #[Value.int .u8 0] (4 + l.length)) 5) := ⟨_, rfl⟩
  rw [← hw3] at s0
  rw [← hw3, e0]
  clear hw3 e0 hmk HS HC
  refine (nibbleDigit (u / 4096) up w3 (by omega)).mono ?_
  rintro e w4 ⟨rfl, rfl⟩
  obtain ⟨c0, f0⟩ := s0.out.cell (k := 0) (by omega)
  go_wp2_with fail
  have e1 : ((u : Int) / 256 % 16) = ((u / 256 % 16 : Nat) : Int) := by omega
  have s1 := hid (s0.out.set 0 (nd (u / 4096) up))
  obtain ⟨x5, hw⟩ : ∃ w', w' = w4.setCell ⟨w2.heap.size, 0, none⟩ (.int .u8 ((nd (u / 4096) up).toNat : Int)) := ⟨_, rfl⟩
  rw [← hw] at s1
  rw [← hw, e1]
  clear hw e1 c0 f0 s0
  refine (nibbleDigit (u / 256 % 16) up x5 (by omega)).mono ?_
  rintro e w5 ⟨rfl, rfl⟩
  obtain ⟨c1, f1⟩ := s1.out.cell (k := 1) (by omega)
  go_wp2_with fail
  have e2 : ((u : Int) / 16 % 16) = ((u / 16 % 16 : Nat) : Int) := by omega
  have s2 := hid (s1.out.set 1 (nd (u / 256 % 16) up))
  obtain ⟨x6, hw⟩ : ∃ w', w' = w5.setCell ⟨w2.heap.size, 1, none⟩ (.int .u8 ((nd (u / 256 % 16) up).toNat : Int)) := ⟨_, rfl⟩
  rw [← hw] at s2
  rw [← hw, e2]
  clear hw e2 c1 f1 s1
  refine (nibbleDigit (u / 16 % 16) up x6 (by omega)).mono ?_
  rintro e w6 ⟨rfl, rfl⟩
  obtain ⟨c2, f2⟩ := s2.out.cell (k := 2) (by omega)
  go_wp2_with fail
  have e3 : ((u : Int) % 16) = ((u % 16 : Nat) : Int) := by omega
  have s3 := hid (s2.out.set 2 (nd (u / 16 % 16) up))
  obtain ⟨x7, hw⟩ : ∃ w', w' = w6.setCell ⟨w2.heap.size, 2, none⟩ (.int .u8 ((nd (u / 16 % 16) up).toNat : Int)) := ⟨_, rfl⟩
  rw [← hw] at s3
  rw [← hw, e3]
  clear hw e3 c2 f2 s2
  refine (nibbleDigit (u % 16) up x7 (by omega)).mono ?_
  rintro e w7 ⟨rfl, rfl⟩
  obtain ⟨c3, f3⟩ := s3.out.cell (k := 3) (by omega)
  go_wp2_with fail
  have s4 := hid (s3.out.set 3 (nd (u % 16) up))
  have q4 := hid (four_start l.length (nd (u / 4096) up) (nd (u / 256 % 16) up) (nd (u / 16 % 16) up) (nd (u % 16) up))
  obtain ⟨L0, hL0⟩ : ∃ L0, L0 = ((((List.replicate (4 + l.length) (0 : UInt8)).set 0 (nd (u / 4096) up)).set 1 (nd (u / 256 % 16) up)).set 2 (nd (u / 16 % 16) up)).set 3 (nd (u % 16) up) := ⟨_, rfl⟩
  rw [← hL0] at s4 q4
  clear hL0 s3 c3 f3
  go_loopw [8] (fun i wr => ∃ (k : Nat) (L : List UInt8), k ≤ l.length ∧ i = .int .i64 k ∧ L.take 4 = four u up ∧ St w2 l.length L wr) (fun i _ => l.length - (intOf i).toNat)
  case atStart => exact ⟨0, L0, Nat.zero_le _, rfl, q4.out, s4.out⟩
  case round =>
    obtain ⟨k, L, hk, rfl, hq, hst⟩ := hrel
    have Q := hid hq
    have S := hid hst
    clear hq hst s4 q4
    by_cases hlt : k < l.length
    · obtain ⟨b, off, rfl, hcell⟩ := HB2.out.below S.out.2.2 (Nat.le_refl _) k hlt
      obtain ⟨c4, f4⟩ := S.out.cell (k := 4 + k) (by omega)
      go_wp2
      go_roundw
      case rel => exact ⟨k + 1, _, by omega, by go_num, four_set Q.out k l[k], S.out.set (4 + k) l[k]⟩
      case measure => simp [intOf]; omega
    · have hlen := S.out.2.1
      have hbuf := S.out.1.hb (by unfold maxLen; omega)
      rw [hlen] at hbuf
      have HX := hid (zzhex4 hbuf)
      obtain ⟨g1, g2⟩ := spelt hu (by omega) Q.out
      rw [g1, g2] at HX
      have HBL := hid (HL.out.trans (S.out.2.2.mono HL.out.size))
      clear hlen hbuf g1 g2
      go_wp2_with (go_at_call 8; refine HX.out.mono ?_; rintro e w8 ⟨rfl, rfl⟩)
      go_ret
      exact ⟨rfl, HBL.out⟩

set_option maxHeartbeats 400000 in
theorem reads_big (x y : Value) (p : Option Addr) (n c : Nat) (w : World) (hm : n ≤ maxLen) (hs : ¬ n ≤ 1048576) :
    Calls Try.prog 4 #[x, y, .slice p n c] w fun e w' => e = .returned (.bool true) ∧ Below w.heap.size w w' := by
  have HS : Hid (Calls Try.prog 10 #[x, y, .slice p n c] w fun e w' => e = .returned (.bool false) ∧ w' = w) := by
    have h1 : decide (n ≤ 1048576) = false := by simp [hs]
    have := small10 x y p n c w hm
    rw [h1] at this
    exact this
  go_enter Try.func4, Try.ntmps4
  go_wp2_with (go_at_call 10; refine HS.out.mono ?_; rintro e w1 ⟨rfl, rfl⟩)
  go_ret
  exact ⟨rfl, Below.refl _ _⟩

/-- FnHex4ReadsWhatWasWritten returns true. -/
theorem reads_walk {w : World} {u : Int} (up : Bool) {p : Option Addr} {n c : Nat} {l : List UInt8} (hu : (Lit.int .u16 u).wf = true) (hb : HB w (.slice p n c) l) :
    Calls Try.prog 4 #[.int .u16 u, .bool up, .slice p n c] w fun e w' => e = .returned (.bool true) ∧ Below w.heap.size w w' := by
  by_cases hs : l.length ≤ 1048576
  · have hw := bounds_u16 hu
    obtain ⟨m, rfl⟩ := Int.eq_ofNat_of_zero_le hw.1
    exact reads_small m up p n c l w (by omega) hb hs
  · have h := hb.small
    exact reads_big _ _ p n c w h.2 (by omega)

end Go.Proofs.Qxb6003135a
