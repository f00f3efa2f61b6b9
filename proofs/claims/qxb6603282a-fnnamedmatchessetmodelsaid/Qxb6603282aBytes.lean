import Derived.Test.Qxb6603282aRows
import Derived.WalkKit
import Derived.WalkSpells
import Derived.WalkLawsBesides
import Derived.Deep.QuietTactic
import Derived.BigQuiet
import Derived.Below
import Derived.Laws.BytesArg
import Derived.Laws.CopyOwn
namespace Go.Proofs.Qxb6603282a
open Go.RowKit

/-- The value v is a slice whose elements are the bytes l. -/
def HB (w : World) (v : Value) (l : List UInt8) : Prop :=
  (l = [] ∧ ∃ p cap, v = .slice p 0 cap) ∨
  (∃ b off cap, 0 < l.length ∧ v = .slice (some ⟨b, off, none⟩) l.length cap ∧ l.length ≤ cap ∧ cap ≤ maxLen ∧
    ∀ i (h : i < l.length), w.cell? ⟨b, off + i, none⟩ = some (.int .u8 (l[i].toNat : Int)))

theorem HB.drewN {w : World} {v : Value} {l : List UInt8} (h : HB w v l) (n : Nat) : HB (w.drewN n) v l := by
  rcases h with h | ⟨b, off, cap, h0, hv, h1, h2, hc⟩
  · exact .inl h
  · exact .inr ⟨b, off, cap, h0, hv, h1, h2, fun i hi => by simpa using hc i hi⟩

theorem HB.below {B : Nat} {w w' : World} {v : Value} {l : List UInt8} (h : HB w v l) (hb : Below B w w') (hB : w.heap.size ≤ B) : HB w' v l := by
  rcases h with h | ⟨b, off, cap, h0, hv, h1, h2, hc⟩
  · exact .inl h
  · refine .inr ⟨b, off, cap, h0, hv, h1, h2, fun i hi => ?_⟩
    have hlt := World.block_lt_of_cell? w _ (hc i hi)
    rw [hb.cell (p := ⟨b, off + i, none⟩) (by simp at hlt ⊢; omega)]
    exact hc i hi

theorem ret_bool {a b : Bool} (h : a = b) : Ending.returned (.bool a) = .returned (.bool b) := by rw [h]

theorem take_succ_eq {x y : List UInt8} {k : Nat} (h : x.take k = y.take k) (hx : k < x.length) (hy : k < y.length) (he : x[k] = y[k]) : x.take (k + 1) = y.take (k + 1) := by
  rw [List.take_succ_eq_append_getElem hx, List.take_succ_eq_append_getElem hy, h, he]

theorem beq_of_ne_at {x y : List UInt8} {k : Nat} (hx : k < x.length) (hy : k < y.length) (h : ((x[k].toNat : Int) != (y[k].toNat : Int)) = true) : (false : Bool) = (x == y) := by
  symm
  rw [beq_eq_false_iff_ne]
  intro e
  subst e
  simp at h

theorem eq_at {x y : List UInt8} {k : Nat} (hx : k < x.length) (hy : k < y.length) (h : ((x[k].toNat : Int) != (y[k].toNat : Int)) = false) : x[k] = y[k] := by
  have h' : (x[k].toNat : Int) = (y[k].toNat : Int) := by simpa using h
  exact UInt8.toNat_inj.1 (by omega)

set_option maxHeartbeats 400000 in
theorem bytesEqual_len (p q : Option Addr) (n m c d : Nat) (w : World) (hne : n ≠ m) :
    Calls Try.prog 29 #[.slice p n c, .slice q m d] w fun e w' => e = .returned (.bool false) ∧ w' = w := by
  have h1 : ((n : Int) != (m : Int)) = true := by simp; omega
  go_enter Try.func29, Try.ntmps29
  go_wp2
  go_ret
  exact ⟨rfl, rfl⟩

set_option maxHeartbeats 400000 in
theorem bytesEqual_zero (p q : Option Addr) (c d : Nat) (w : World) :
    Calls Try.prog 29 #[.slice p 0 c, .slice q 0 d] w fun e w' => e = .returned (.bool true) ∧ w' = w := by
  go_enter Try.func29, Try.ntmps29
  go_wp2
  refine wp_loop_rounds 1 ?_
  rw [rounds_succ]
  go_wp2
  go_ret
  exact ⟨rfl, rfl⟩

set_option maxHeartbeats 400000 in
theorem bytesEqual_pos (b off c b' off' d : Nat) (x y : List UInt8) (w : World) (hl : y.length = x.length) (hm : x.length ≤ maxLen)
    (hx : ∀ i (h : i < x.length), w.cell? ⟨b, off + i, none⟩ = some (.int .u8 (x[i].toNat : Int)))
    (hy : ∀ i (h : i < y.length), w.cell? ⟨b', off' + i, none⟩ = some (.int .u8 (y[i].toNat : Int))) :
    Calls Try.prog 29 #[.slice (some ⟨b, off, none⟩) x.length c, .slice (some ⟨b', off', none⟩) x.length d] w fun e w' => e = .returned (.bool (x == y)) ∧ ∃ n, w' = w.drewN n := by
  unfold maxLen at hm
  go_enter Try.func29, Try.ntmps29
  go_wp2
  go_loopw [5] (fun i wr => ∃ k : Nat, k ≤ x.length ∧ i = .int .i64 k ∧ x.take k = y.take k ∧ ∃ n, wr = w.drewN n) (fun i _ => x.length - (intOf i).toNat)
  case atStart => exact ⟨0, Nat.zero_le _, rfl, by simp, 0, rfl⟩
  case round =>
    obtain ⟨k, hk, rfl, he, n, rfl⟩ := hrel
    have HE : Hid (x.take k = y.take k) := he
    clear he
    by_cases hlt : k < x.length
    · have hcx := hx k hlt
      have hcy := hy k (by omega)
      clear hx hy
      go_wp2
      go_quiet (fail)
      go_wp2
      · go_ret
        exact ⟨ret_bool (beq_of_ne_at hlt (by omega) ‹_›), n + nq, by rw [World.drewN_drewN]⟩
      · have hky : k < y.length := by omega
        have h2 : x[k] = y[k] := eq_at hlt hky ‹_›
        have h3 := take_succ_eq HE.out hlt hky h2
        go_roundw
        case rel => exact ⟨k + 1, by omega, by go_num, h3, _, rfl⟩
        case measure => simp [intOf]; omega
    · go_wp2
      go_ret
      have h4 := HE.out
      rw [List.take_of_length_le (by omega), List.take_of_length_le (by omega)] at h4
      exact ⟨ret_bool (by rw [h4]; simp), n, rfl⟩

/-- zzBytesEqual. -/
theorem bytesEqual {w : World} {u v : Value} {x y : List UInt8} (hu : HB w u x) (hv : HB w v y) :
    Calls Try.prog 29 #[u, v] w fun e w' => e = .returned (.bool (x == y)) ∧ ∃ n, w' = w.drewN n := by
  by_cases hl : y.length = x.length
  · rcases hu with ⟨rfl, p, c, rfl⟩ | ⟨b, off, cap, h0, rfl, h1, h2, hc⟩
    · rcases hv with ⟨rfl, q, d, rfl⟩ | ⟨b', off', cap', h0', rfl, h1', h2', hc'⟩
      · refine (bytesEqual_zero p q c d w).mono ?_
        rintro e w' ⟨rfl, rfl⟩
        exact ⟨rfl, 0, rfl⟩
      · simp only [List.length_nil] at hl; omega
    · rcases hv with ⟨rfl, q, d, rfl⟩ | ⟨b', off', cap', h0', rfl, h1', h2', hc'⟩
      · simp only [List.length_nil] at hl; omega
      · rw [hl]
        exact bytesEqual_pos b off cap b' off' cap' x y w hl (by omega) hc hc'
  · have hne : (x == y) = false := by
      rw [beq_eq_false_iff_ne]; rintro rfl; exact hl rfl
    rw [hne]
    have key : ∀ (p q : Option Addr) (c d : Nat), Calls Try.prog 29 #[.slice p x.length c, .slice q y.length d] w fun e w' => e = .returned (.bool false) ∧ ∃ n, w' = w.drewN n := by
      intro p q c d
      refine (bytesEqual_len p q x.length y.length c d w (Ne.symm hl)).mono ?_
      rintro e w' ⟨rfl, rfl⟩
      exact ⟨rfl, 0, rfl⟩
    rcases hu with ⟨rfl, p, c, rfl⟩ | ⟨b, off, cap, h0, rfl, h1, h2, hc⟩ <;>
    rcases hv with ⟨rfl, q, d, rfl⟩ | ⟨b', off', cap', h0', rfl, h1', h2', hc'⟩ <;> exact key _ _ _ _

/-! ### zzCloneBytes -/
/-- The cells of the bytes l. -/
def bv (l : List UInt8) : List Value := l.map fun b => Value.int .u8 (b.toNat : Int)

theorem bv_length (l : List UInt8) : (bv l).length = l.length := by simp [bv]

theorem bv_oneCell (l : List UInt8) : ∀ u ∈ bv l, u.oneCell' = true := by
  intro u hu
  obtain ⟨b, _, rfl⟩ := List.mem_map.1 hu
  rfl

theorem info5 : (Try.prog.info? 5).map (fun i => (i.zero, i.size, i.bytes)) = some (some (.int .u8 0), 1, 1) := by kernel_rfl
theorem size5 : (Try.prog.info? 5).map (·.size) = some 1 := by kernel_rfl

theorem eqNil28 (w : World) (a : Option Addr) (n c : Nat) : (binOp .eql 28 (.slice a n c) (.slice none 0 0)).run Try.prog w = .ok (.bool a.isNone) w :=
  Lib.run_eql_slice_nil w 28 5 a n c 0 0 Try.underlying28

set_option maxHeartbeats 400000 in
theorem cloneBytes_nil (n c : Nat) (w : World) :
    Calls Try.prog 24 #[.slice none n c] w fun e w' => e = .returned (.slice none 0 0) ∧ w' = w := by
  have hq := eqNil28
  go_enter Try.func24, Try.ntmps24
  go_wp2
  go_ret
  exact ⟨rfl, rfl⟩

theorem own_of_row {w : World} {g n : Nat} {xs : List Value} (B : Nat) (hB : B ≤ g) (hl : xs.length = n) (hm : n ≤ maxLen) (h : w.heap[g]? = some (.cells xs.toArray 5 (0, 0))) :
    w.ownsRow B 5 1 (.slice (some ⟨g, 0, none⟩) n n) n xs :=
  ⟨by omega, .inr ⟨g, n, xs.toArray, rfl, hB, h, Nat.le_refl _, hm, by simp; omega, by simp [← hl]⟩⟩

theorem row_of_own {w : World} {B g n : Nat} {e : TypeId} {xs : List Value} (h : w.ownsRow B e 1 (.slice (some ⟨g, 0, none⟩) n n) n xs) : w.heap[g]? = some (.cells xs.toArray e (0, 0)) := by
  obtain ⟨hl, h⟩ := h
  rcases h with ⟨h, _⟩ | ⟨g', cap, cur, hv, _, hh, _, _, hsz, ht⟩
  · cases h
  · simp only [Value.slice.injEq, Option.some.injEq, Addr.mk.injEq, and_true, true_and] at hv
    obtain ⟨rfl, rfl⟩ := hv
    rw [hh]
    have : cur.toList = xs := by rw [← ht, List.take_of_length_le (by simp; omega)]
    rw [← this]

set_option maxHeartbeats 400000 in
theorem cloneBytes_some (a : Addr) (c : Nat) (l : List UInt8) (w : World) (hs : l.length ≤ 1048576)
    (hc : 0 < l.length → ∀ i v, (bv l)[i]? = some v → w.cell? (a.add i) = some v) :
    Calls Try.prog 24 #[.slice (some a) l.length c] w fun e w' => ∃ v', e = .returned v' ∧ w'.ownsRow w.heap.size 5 1 v' l.length (bv l) ∧ Below w.heap.size w w' := by
  have hq := eqNil28
  have hb := bv_length l
  have h1 := bv_oneCell l
  obtain ⟨i0, hi, hz0, hz1, hz2⟩ := info_parts info5
  go_enter Try.func24, Try.ntmps24
  go_wp2_with (first | (at_make; refine wpList_make_full _ rfl _ _ 28 rfl w.heap.size 5 i0 (.int .u8 0) 1 Try.underlying28 hi hz0 hz1 .i64 .i64 _ _ l.length rfl rfl rfl rfl (by rw [hz2]; omega) (by unfold maxLen; omega) (Nat.le_refl _) ?_; intro w1 hown hgrow; have hrow := row_of_own hown; have hbel := (Below.refl w.heap.size w).grown hgrow (Nat.le_refl _) (by simp)) | (have _t := hrow; refine wpList_copy_splice rfl _ _ 28 28 rfl 5 Try.underlying28 size5 _ _ _ _ _ _ rfl rfl w.heap.size 0 _ 5 hrow (bv l) ?q1 ?q2 ?q3 h1 w.heap.size w hbel (Nat.le_refl _) ?q4))
  case q1 => rw [hb]; exact (Nat.min_self _).symm
  case q2 =>
    intro hpos j v hj
    have h2 := hc hpos j v hj
    have hlt := World.block_lt_of_cell? w _ h2
    rw [hbel.cell hlt]
    exact h2
  case q3 => rw [hb]; simp [madeCells]
  case q4 =>
    intro w2 HR2 hb2
    go_wp2
    go_ret
    refine ⟨_, rfl, own_of_row _ (Nat.le_refl _) hb (by unfold maxLen; omega) ?_, hb2⟩
    rw [HR2.out]
    have : splice (madeCells #[Value.int IntKind.u8 0] l.length).toList 0 (bv l) = bv l := by
      unfold splice
      rw [List.drop_eq_nil_of_le (by rw [hb]; simp [madeCells])]
      simp
    rw [this]

/-- zzCloneBytes. -/
theorem cloneBytes {w : World} {v : Value} {l : List UInt8} (hv : HB w v l) (hs : l.length ≤ 1048576) :
    Calls Try.prog 24 #[v] w fun e w' => ∃ v', e = .returned v' ∧ w'.ownsRow w.heap.size 5 1 v' l.length (bv l) ∧ Below w.heap.size w w' := by
  rcases hv with ⟨rfl, p, c, rfl⟩ | ⟨b, off, cap, h0, rfl, h1, h2, hc⟩
  · cases p with
    | none =>
      refine (cloneBytes_nil 0 c w).mono ?_
      rintro e w' ⟨rfl, rfl⟩
      exact ⟨_, rfl, World.ownsRow_nil _ _ _ _, Below.refl _ _⟩
    | some a => exact cloneBytes_some a c [] w (by simp) (by simp)
  · refine cloneBytes_some ⟨b, off, none⟩ cap l w hs ?_
    intro _ i v hi
    have hi' : i < l.length := by
      rcases Nat.lt_or_ge i l.length with h | h
      · exact h
      · rw [List.getElem?_eq_none (by rw [bv_length]; exact h)] at hi; cases hi
    have e1 : (⟨b, off, none⟩ : Addr).add i = ⟨b, off + i, none⟩ := by unfold Addr.add; split <;> simp_all
    rw [e1, hc i hi']
    simp [bv, hi'] at hi
    rw [hi]

/-- An owned row of bytes is a slice of these bytes. -/
theorem HB.ofOwn {w : World} {B : Nat} {v : Value} {l : List UInt8} (h : w.ownsRow B 5 1 v l.length (bv l)) : HB w v l := by
  have hcell := fun g => World.ownsRow.cells h (g := g)
  obtain ⟨_, h2⟩ := h
  rcases h2 with ⟨rfl, h0⟩ | ⟨g, cap, cur, rfl, _, hh, hn, hm, _, _⟩
  · exact .inl ⟨List.eq_nil_of_length_eq_zero h0, _, _, rfl⟩
  · by_cases h0 : 0 < l.length
    · refine .inr ⟨g, 0, cap, h0, rfl, hn, hm, fun i hi => ?_⟩
      have := hcell g rfl i (.int .u8 (l[i].toNat : Int)) (by simp [bv, hi])
      have e1 : (⟨g, 0, none⟩ : Addr).add i = ⟨g, 0 + i, none⟩ := by unfold Addr.add; split <;> simp_all
      rw [e1] at this
      exact this
    · have : l = [] := List.eq_nil_of_length_eq_zero (by omega)
      subst this
      exact .inl ⟨rfl, _, _, rfl⟩

/-- The string of the bytes l. -/
def str (l : List UInt8) : ByteArray := ⟨l.toArray⟩
theorem str_size (l : List UInt8) : (str l).size = l.length := by simp [str, ByteArray.size]
theorem str_data (l : List UInt8) : (str l).data.toList = l := by simp [str]
theorem str_toList (l : List UInt8) : (str l).toList = l := by rw [ByteArray.toList_eq, str_data]

theorem HB.convert {w : World} {v : Value} {l : List UInt8} (h : HB w v l) : (convert 28 9 v).run Try.prog w = .ok (.string (str l)) w := by
  rcases h with ⟨rfl, p, c, rfl⟩ | ⟨b, off, cap, h0, rfl, h1, h2, hc⟩
  · rw [run_convert_bytes_string w 28 9 5 _ 0 c Try.underlying28 Try.underlying5 Try.underlying9]
    cases p <;> simp [Conv.bytesToString, loadCells] <;> rfl
  · have := run_convert_bytes_arg (P := Try.prog) w 28 5 Try.underlying28 Try.underlying5 b off l.length cap (l.map fun b => (b.toNat : Int)) (by simp)
      (fun i hi => by rw [hc i hi]; simp [hi]) 9 Try.underlying9
    rw [this]
    simp [strOfNums, str, Function.comp_def]

set_option maxHeartbeats 400000 in
/-- bytes.Equal. -/
theorem bytes_Equal {w : World} {u v : Value} {x y : List UInt8} (hu : HB w u x) (hv : HB w v y) :
    Calls Try.prog 46 #[u, v] w fun e w' => e = .returned (.bool (x == y)) ∧ w' = w := by
  have h1 := hu.convert
  have h2 := hv.convert
  have h3 := str_toList x
  have h4 := str_toList y
  clear hu hv
  go_enter Try.func46, Try.ntmps46
  go_wp2
  go_ret
  exact ⟨rfl, rfl⟩

end Go.Proofs.Qxb6603282a
