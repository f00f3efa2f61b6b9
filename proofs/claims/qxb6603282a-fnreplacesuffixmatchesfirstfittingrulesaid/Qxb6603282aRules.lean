import Derived.Test.Qxb6603282aSuffix
import Derived.Deep.OwnRows
namespace Go.Proofs.Qxb6603282a
open Go.RowKit
attribute [local go_sem] st_size st_toList st_get st_extract st_append

/-- A rule: its letter, its suffix, its replacement. -/
abbrev Rule := UInt8 × List UInt8 × List UInt8

/-- The slice at p holds the rules rs. -/
def HR (w : World) (p : Option Addr) (rs : List Rule) : Prop :=
  ∀ i (h : i < rs.length), ∃ b off, p = some ⟨b, off, none⟩ ∧ w.cell? ⟨b, off + i * 3, none⟩ = some (.int .u8 (rs[i].1.toNat : Int)) ∧
    w.cell? ⟨b, off + i * 3 + 1, none⟩ = some (.string (st rs[i].2.1)) ∧ w.cell? ⟨b, off + i * 3 + 2, none⟩ = some (.string (st rs[i].2.2))

theorem HR.below {B : Nat} {w w' : World} {p : Option Addr} {rs : List Rule} (h : HR w p rs) (hb : Below B w w') (hB : w.heap.size ≤ B) : HR w' p rs := by
  intro i hi
  obtain ⟨b, off, hp, h1, h2, h3⟩ := h i hi
  have hlt : b < B := Nat.lt_of_lt_of_le (World.block_lt_of_cell? w _ h1) hB
  exact ⟨b, off, hp, (hb.cell (p := ⟨b, _, none⟩) hlt).trans h1, (hb.cell (p := ⟨b, _, none⟩) hlt).trans h2, (hb.cell (p := ⟨b, _, none⟩) hlt).trans h3⟩

/-- How many bytes the rules' strings have. -/
def rlens (rs : List Rule) : Nat := (rs.map fun r => r.2.1.length + r.2.2.length).sum

theorem rlens_take_succ {rs : List Rule} {k : Nat} (h : k < rs.length) : rlens (rs.take (k + 1)) = rlens (rs.take k) + (rs[k].2.1.length + rs[k].2.2.length) := by
  unfold rlens
  rw [List.take_succ_eq_append_getElem h, List.map_append, List.sum_append]
  simp

theorem rlens_take_le (rs : List Rule) (k : Nat) : rlens (rs.take k) ≤ rlens rs := by
  conv => rhs; rw [← List.take_append_drop k rs]
  simp only [rlens, List.map_append, List.sum_append]
  omega

theorem le_rlens {rs : List Rule} {k : Nat} (h : k < rs.length) : rs[k].2.1.length + rs[k].2.2.length ≤ rlens rs := by
  have := rlens_take_le rs (k + 1)
  rw [rlens_take_succ h] at this
  omega

/-- The answer is a bool, and a yes says that N is small. -/
def OkLow (N : Nat) (e : Ending) : Prop := ∃ b : Bool, e = .returned (.bool b) ∧ (b = true → N ≤ 1048576)

set_option maxHeartbeats 1600000 in
/-- zzBytes_FnReplaceSuffixKeepsWordsBelowMinMeasure -/
theorem bytesKeeps {w : World} (l : List UInt8) (p : Option Addr) (c : Nat) (mm : Int) {rs : List Rule} (hx : HR w p rs) :
    Calls Try.prog 20 #[.string (st l), .slice p rs.length c, .int .i64 mm] w fun e w' => OkLow (l.length + rs.length + rlens rs) e ∧ w' = w := by
  by_cases h1 : (1048576 : Int) < (l.length : Int)
  · clear hx
    go_enter Try.func20, Try.ntmps20
    go_wp2
    go_ret
    exact ⟨⟨false, rfl, by simp⟩, rfl⟩
  · by_cases h2 : (1048576 : Int) < (rs.length : Int)
    · clear hx
      go_enter Try.func20, Try.ntmps20
      go_wp2
      go_ret
      exact ⟨⟨false, rfl, by simp⟩, rfl⟩
    · by_cases h3 : (1048576 : Int) < (l.length : Int) + (rs.length : Int)
      · clear hx
        go_enter Try.func20, Try.ntmps20
        go_wp2
        go_ret
        exact ⟨⟨false, rfl, by simp⟩, rfl⟩
      · go_enter Try.func20, Try.ntmps20
        go_wp2
        go_loop [7, 8] (fun t i => ∃ k : Nat, k ≤ rs.length ∧ i = .int .i64 k ∧ t = .int .i64 ((l.length + rs.length + rlens (rs.take k) : Nat) : Int) ∧ l.length + rs.length + rlens (rs.take k) ≤ 1048576) (fun _ i => rs.length - (intOf i).toNat)
        case atStart => exact ⟨0, Nat.zero_le _, rfl, by simp [rlens], by simp [rlens]; omega⟩
        case round =>
          obtain ⟨k, hk, rfl, rfl, hr⟩ := hrel
          by_cases hlt : k < rs.length
          · have HS : Hid (rlens (rs.take (k + 1)) = rlens (rs.take k) + (rs[k].2.1.length + rs[k].2.2.length)) := rlens_take_succ hlt
            obtain ⟨b, off, hp, c0, c1, c2⟩ := hx k hlt
            subst hp
            clear hx c0
            generalize rlens (rs.take k) = r at hr HS ⊢
            generalize rs[k].2.1 = s1 at HS c1
            generalize rs[k].2.2 = s2 at HS c2
            by_cases g1 : (1048576 : Int) < (s1.length : Int)
            · go_wp2
              go_ret
              exact ⟨⟨false, rfl, by simp⟩, rfl⟩
            · by_cases g2 : (1048576 : Int) < ((l.length + rs.length + r : Nat) : Int) + (s1.length : Int)
              · go_wp2
                go_ret
                exact ⟨⟨false, rfl, by simp⟩, rfl⟩
              · by_cases g3 : (1048576 : Int) < (s2.length : Int)
                · go_wp2
                  go_ret
                  exact ⟨⟨false, rfl, by simp⟩, rfl⟩
                · by_cases g4 : (1048576 : Int) < ((l.length + rs.length + r : Nat) : Int) + (s1.length : Int) + (s2.length : Int)
                  · go_wp2
                    go_ret
                    exact ⟨⟨false, rfl, by simp⟩, rfl⟩
                  · go_wp2
                    go_round
                    case rel => exact ⟨k + 1, by omega, by go_num, by rw [HS.out]; go_num, by rw [HS.out]; omega⟩
                    case measure => simp [intOf]; omega
          · have ek : rs.take k = rs := List.take_of_length_le (by omega)
            rw [ek] at hr
            clear hx ek
            go_wp2
            go_ret
            exact ⟨⟨true, rfl, fun _ => hr⟩, rfl⟩

set_option maxHeartbeats 1600000 in
/-- zzBytes_FnReplaceSuffixMatchesFirstFittingRule -/
theorem bytesFirst {w : World} (l : List UInt8) (p : Option Addr) (c : Nat) (mm : Int) {rs : List Rule} (hx : HR w p rs) :
    Calls Try.prog 15 #[.string (st l), .slice p rs.length c, .int .i64 mm] w fun e w' => OkLow (l.length + rs.length + rlens rs) e ∧ w' = w := by
  by_cases h1 : (1048576 : Int) < (l.length : Int)
  · clear hx
    go_enter Try.func15, Try.ntmps15
    go_wp2
    go_ret
    exact ⟨⟨false, rfl, by simp⟩, rfl⟩
  · by_cases h2 : (1048576 : Int) < (rs.length : Int)
    · clear hx
      go_enter Try.func15, Try.ntmps15
      go_wp2
      go_ret
      exact ⟨⟨false, rfl, by simp⟩, rfl⟩
    · by_cases h3 : (1048576 : Int) < (l.length : Int) + (rs.length : Int)
      · clear hx
        go_enter Try.func15, Try.ntmps15
        go_wp2
        go_ret
        exact ⟨⟨false, rfl, by simp⟩, rfl⟩
      · go_enter Try.func15, Try.ntmps15
        go_wp2
        go_loop [7, 8] (fun t i => ∃ k : Nat, k ≤ rs.length ∧ i = .int .i64 k ∧ t = .int .i64 ((l.length + rs.length + rlens (rs.take k) : Nat) : Int) ∧ l.length + rs.length + rlens (rs.take k) ≤ 1048576) (fun _ i => rs.length - (intOf i).toNat)
        case atStart => exact ⟨0, Nat.zero_le _, rfl, by simp [rlens], by simp [rlens]; omega⟩
        case round =>
          obtain ⟨k, hk, rfl, rfl, hr⟩ := hrel
          by_cases hlt : k < rs.length
          · have HS : Hid (rlens (rs.take (k + 1)) = rlens (rs.take k) + (rs[k].2.1.length + rs[k].2.2.length)) := rlens_take_succ hlt
            obtain ⟨b, off, hp, c0, c1, c2⟩ := hx k hlt
            subst hp
            clear hx c0
            generalize rlens (rs.take k) = r at hr HS ⊢
            generalize rs[k].2.1 = s1 at HS c1
            generalize rs[k].2.2 = s2 at HS c2
            by_cases g1 : (1048576 : Int) < (s1.length : Int)
            · go_wp2
              go_ret
              exact ⟨⟨false, rfl, by simp⟩, rfl⟩
            · by_cases g2 : (1048576 : Int) < ((l.length + rs.length + r : Nat) : Int) + (s1.length : Int)
              · go_wp2
                go_ret
                exact ⟨⟨false, rfl, by simp⟩, rfl⟩
              · by_cases g3 : (1048576 : Int) < (s2.length : Int)
                · go_wp2
                  go_ret
                  exact ⟨⟨false, rfl, by simp⟩, rfl⟩
                · by_cases g4 : (1048576 : Int) < ((l.length + rs.length + r : Nat) : Int) + (s1.length : Int) + (s2.length : Int)
                  · go_wp2
                    go_ret
                    exact ⟨⟨false, rfl, by simp⟩, rfl⟩
                  · go_wp2
                    go_round
                    case rel => exact ⟨k + 1, by omega, by go_num, by rw [HS.out]; go_num, by rw [HS.out]; omega⟩
                    case measure => simp [intOf]; omega
          · have ek : rs.take k = rs := List.take_of_length_le (by omega)
            rw [ek] at hr
            clear hx ek
            go_wp2
            go_ret
            exact ⟨⟨true, rfl, fun _ => hr⟩, rfl⟩


end Go.Proofs.Qxb6603282a
