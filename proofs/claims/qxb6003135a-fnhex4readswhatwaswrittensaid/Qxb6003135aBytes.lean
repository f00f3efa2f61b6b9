import Derived.Test.Qxb6003135aRows
import Derived.WalkKit
import Derived.WalkSpells
import Derived.WalkLawsBesides
import Derived.Deep.QuietTactic
import Derived.BigQuiet
import Derived.Below
import Derived.ProofKit
import Derived.OpenShut
import Derived.Deep.OwnRows
import Derived.Deep.Matrix
namespace Go.Proofs.Qxb6003135a
open Go.RowKit Go.ChangeShapes Go.WideShapes Go.Deep

/-- The value v is a slice whose elements are the bytes l. -/
def HB (w : World) (v : Value) (l : List UInt8) : Prop :=
  (l = [] ∧ ∃ p cap, v = .slice p 0 cap) ∨
  (∃ b off cap, 0 < l.length ∧ v = .slice (some ⟨b, off, none⟩) l.length cap ∧ l.length ≤ cap ∧ cap ≤ maxLen ∧
    ∀ i (h : i < l.length), w.cell? ⟨b, off + i, none⟩ = some (.int .u8 (l[i].toNat : Int)))

theorem HB.drewN {w : World} {v : Value} {l : List UInt8} (h : HB w v l) (n : Nat) : HB (w.drewN n) v l := by
  rcases h with h | ⟨b, off, cap, h0, hv, h1, h2, hc⟩
  · exact .inl h
  · exact .inr ⟨b, off, cap, h0, hv, h1, h2, fun i hi => by simpa using hc i hi⟩

theorem HB.below {B : Nat} {w w' : World} {v : Value} {l : List UInt8} (h : HB w v l) (hb : Below B w w') (hB : w.heap.size ≤ B) : HB w' v l := by
  rcases h with h | ⟨b, off, cap, h0, hv, h1, h2, hc⟩
  · exact .inl h
  · refine .inr ⟨b, off, cap, h0, hv, h1, h2, fun i hi => ?_⟩
    have hlt := World.block_lt_of_cell? w _ (hc i hi)
    rw [hb.cell (p := ⟨b, off + i, none⟩) (by simp at hlt ⊢; omega)]
    exact hc i hi

/-- The shape of a slice of bytes. -/
theorem HB.shape {w : World} {v : Value} {l : List UInt8} (h : HB w v l) : ∃ p cap, v = .slice p l.length cap := by
  rcases h with ⟨rfl, p, cap, rfl⟩ | ⟨b, off, cap, _, rfl, _⟩
  · exact ⟨_, _, rfl⟩
  · exact ⟨_, _, rfl⟩

/-- A slice of bytes, read by its cells. -/
def HC (w : World) (p : Option Addr) (l : List UInt8) : Prop :=
  ∀ i (h : i < l.length), ∃ b off, p = some ⟨b, off, none⟩ ∧ w.cell? ⟨b, off + i, none⟩ = some (.int .u8 (l[i].toNat : Int))

theorem HC.drewN {w : World} {p : Option Addr} {l : List UInt8} (h : HC w p l) (n : Nat) : HC (w.drewN n) p l := by
  intro i hi
  obtain ⟨b, off, hp, hc⟩ := h i hi
  exact ⟨b, off, hp, by simpa using hc⟩

theorem HC.below {B : Nat} {w w' : World} {p : Option Addr} {l : List UInt8} (h : HC w p l) (hb : Below B w w') (hB : w.heap.size ≤ B) : HC w' p l := by
  intro i hi
  obtain ⟨b, off, hp, hc⟩ := h i hi
  have hlt := World.block_lt_of_cell? w _ hc
  refine ⟨b, off, hp, ?_⟩
  rw [hb.cell (p := ⟨b, off + i, none⟩) (by simp at hlt ⊢; omega)]
  exact hc

theorem HB.cells {w : World} {p : Option Addr} {n c : Nat} {l : List UInt8} (h : HB w (.slice p n c) l) : HC w p l := by
  rcases h with ⟨rfl, _⟩ | ⟨b, off, cap, h0, hv, h1, h2, hc⟩
  · intro i hi; simp at hi
  · simp only [Value.slice.injEq] at hv
    obtain ⟨rfl, _, _⟩ := hv
    exact fun i hi => ⟨b, off, rfl, hc i hi⟩

theorem add_plain (b off i : Nat) : (⟨b, off, none⟩ : Addr).add i = ⟨b, off + i, none⟩ := by unfold Addr.add; split <;> simp_all

theorem cells5 : Try.prog.cellsOf 5 = 1 := by kernel_rfl

theorem byte_of_wf {n : Int} (h : (Lit.int .u8 n).wf = true) : ((UInt8.ofNat n.toNat).toNat : Int) = n := by
  have := bounds_u8 h
  rw [UInt8.toNat_ofNat']
  omega

theorem plain_addr {w : World} {a : Addr} {i : Nat} {v : Value} (h0 : ∀ j, j ≤ i → ∃ u, w.cell? (a.add j) = some u) (h : w.cell? (a.add i) = some v) : ∃ b off, a = ⟨b, off, none⟩ ∧ w.cell? ⟨b, off + i, none⟩ = some v := by
  obtain ⟨b, off, spot⟩ := a
  obtain ⟨u, hu⟩ := h0 0 (Nat.zero_le _)
  have hspot : spot = none := by simpa [Addr.add] using World.cell?_spot hu
  subst hspot
  exact ⟨b, off, rfl, by rw [← add_plain]; exact h⟩

/-- The numbers of a row of bytes, as bytes. -/
theorem hb_of_cells {w : World} {p : Option Addr} {L C : Nat} {Z : List Int} (hL : L ≤ C) (hC : C ≤ maxLen) (hZ : Z.length = C) (hwf : ∀ n ∈ Z, (Lit.int .u8 n).wf = true) (hn : p = none → C = 0)
    (hc : ∀ a, p = some a → ∀ c, c < C → w.cell? (a.add c) = some (.int .u8 (Z.getD c 0))) :
    ∃ l : List UInt8, l.length = L ∧ HB w (.slice p L C) l := by
  refine ⟨(Z.take L).map fun n => UInt8.ofNat n.toNat, by simp; omega, ?_⟩
  by_cases h0 : L = 0
  · subst h0
    exact .inl ⟨by simp, p, C, rfl⟩
  · cases p with
    | none => have := hn rfl; omega
    | some a =>
      have hall := hc a rfl
      obtain ⟨b, off, rfl, _⟩ := plain_addr (i := 0) (fun j hj => ⟨_, hall j (by omega)⟩) (hall 0 (by omega))
      refine .inr ⟨b, off, C, by simp; omega, by simp; omega, by simp; omega, hC, fun i hi => ?_⟩
      have hi' : i < L := by simp at hi; omega
      have := hall i (by omega)
      rw [add_plain] at this
      rw [this]
      have hz : i < Z.length := by omega
      simp only [List.getElem_map, List.getElem_take, List.getD, List.getElem?_eq_getElem hz, Option.getD_some]
      rw [byte_of_wf (hwf _ (List.getElem_mem hz))]

/-- AN ARGUMENT OF TYPE []byte, OPENED. -/
theorem opened_bytes {H : Type} {enc : TypeId × Value → H} {W : World} {a0 : Option Addr} {len cap : Nat} {d0 : DataW H} {p : List MemPlace}
    (h0 : DataW.Trod enc Try.prog W 0 (fun _ => true) true 22 (.slice a0 len cap) d0 p) :
    ∃ l : List UInt8, l.length = len ∧ HB W (.slice a0 len cap) l := by
  obtain ⟨fuel, hf⟩ := h0
  rcases open_ints Try.underlying22 Try.underlying5 cells5 hf with ⟨hcs, _⟩ | ⟨a, len', cap', zs, hcs, _, hl, hm, hz, _, hcell, hwz⟩
  · simp [Value.cells] at hcs
    obtain ⟨rfl, rfl, rfl⟩ := hcs
    exact ⟨[], rfl, .inl ⟨rfl, _, _, rfl⟩⟩
  · simp [Value.cells] at hcs
    obtain ⟨rfl, rfl, rfl⟩ := hcs
    simp only [if_true] at hz
    refine hb_of_cells hl hm hz hwz (fun h => by cases h) (fun a' ha' c hc => ?_)
    cases ha'
    exact hcell c (by omega)


theorem row_below {w w' : World} {B b : Nat} {t : TypeId} {n : Nat} {f : Nat → Value} (h : w.rowIs b t n f) (hb : Below B w w') (hB : w.heap.size ≤ B) : w'.rowIs b t n f :=
  h.of_block (hb.block b (by have := h.lt; omega))

theorem info5 : (Try.prog.info? 5).map (fun i => (i.zero, i.size, i.bytes)) = some (some (.int .u8 0), 1, 1) := by kernel_rfl

theorem eqNil22 (w : World) (a : Option Addr) (n c : Nat) : (binOp .eql 22 (.slice a n c) (.slice none 0 0)).run Try.prog w = .ok (.bool a.isNone) w :=
  Lib.run_eql_slice_nil w 22 5 a n c 0 0 Try.underlying22

/-- A row whose cells are the bytes l. -/
theorem hb_of_row {w : World} {B n : Nat} {f : Nat → Value} {l : List UInt8} (hn : n = l.length) (hm : n ≤ maxLen) (hrow : w.rowIs B 5 n f)
    (hf : ∀ j (h : j < l.length), f j = .int .u8 (l[j].toNat : Int)) : HB w (.slice (some ⟨B, 0, none⟩) n n) l := by
  subst hn
  by_cases h0 : 0 < l.length
  · refine .inr ⟨B, 0, l.length, h0, rfl, Nat.le_refl _, hm, fun i hi => ?_⟩
    have := hrow.cell hi
    rw [hf i hi] at this
    simpa using this
  · have : l = [] := List.eq_nil_of_length_eq_zero (by omega)
    subst this
    exact .inl ⟨rfl, _, _, rfl⟩

set_option maxHeartbeats 400000 in
theorem cloneBytes_nil (n c : Nat) (w : World) :
    Calls Try.prog 7 #[.slice none n c] w fun e w' => e = .returned (.slice none 0 0) ∧ w' = w := by
  have hq := eqNil22
  go_enter Try.func7, Try.ntmps7
  go_wp2
  go_ret
  exact ⟨rfl, rfl⟩

set_option maxHeartbeats 400000 in
theorem cloneBytes_some (a : Addr) (c : Nat) (l : List UInt8) (w : World) (hs : l.length ≤ 1048576) (hc : HC w (some a) l) :
    Calls Try.prog 7 #[.slice (some a) l.length c] w fun e w' => ∃ v', e = .returned v' ∧ HB w' v' l ∧ Below w.heap.size w w' := by
  have hq := eqNil22
  have hmk := run_make_row' (P := Try.prog) 22 5 (.int .u8 0) 1 Try.underlying22 info5 rfl .i64 .i64 l.length (by omega) (by omega)
  go_enter Try.func7, Try.ntmps7
  go_wp2
  go_loopw [4] (fun i wr => ∃ (k : Nat) (f : Nat → Value), k ≤ l.length ∧ i = .int .i64 k ∧ wr.rowIs w.heap.size 5 l.length f ∧
      (∀ j (h : j < l.length), j < k → f j = .int .u8 (l[j].toNat : Int)) ∧ Below w.heap.size w wr) (fun i _ => l.length - (intOf i).toNat)
  case atStart => exact ⟨0, _, Nat.zero_le _, rfl, World.rowIs_made _ _ _ _, by simp, (Below.refl _ _).alloc (Nat.le_refl _) _⟩
  case round =>
    obtain ⟨k, f, hk, rfl, hrow, hf, hbel⟩ := hrel
    by_cases hlt : k < l.length
    · have hc' := hc.below hbel (Nat.le_refl _)
      obtain ⟨b, off, hp, hcell⟩ := hc' k hlt
      simp only [Option.some.injEq] at hp
      subst hp
      have hB := hrow.lt
      have hcw := hrow.cell hlt
      have hfw := hrow.frozen k
      have HF : Hid (∀ j (h : j < l.length), j < k → f j = .int .u8 (l[j].toNat : Int)) := hf
      have HBL : Hid (Below w.heap.size w wr) := hbel
      have HR : Hid (wr.rowIs w.heap.size 5 l.length f) := hrow
      clear hc hc' hf hbel hrow
      go_wp2
      go_roundw
      case rel => exact ⟨k + 1, _, by omega, by go_num, HR.out.set k _, by
        intro j hj hjk
        by_cases e : j = k
        · subst e; simp
        · simp only [if_neg e]; exact HF.out j hj (by omega), HBL.out.setCell (Nat.le_refl _) _⟩
      case measure => simp [intOf]; omega
    · clear hc
      go_wp2
      go_ret
      exact ⟨_, rfl, hb_of_row rfl (by unfold maxLen; omega) hrow (fun j hj => hf j hj (by omega)), hbel⟩

/-- cloneBytes. -/
theorem cloneBytes {w : World} {v : Value} {l : List UInt8} (hv : HB w v l) (hs : l.length ≤ 1048576) :
    Calls Try.prog 7 #[v] w fun e w' => ∃ v', e = .returned v' ∧ HB w' v' l ∧ Below w.heap.size w w' := by
  obtain ⟨p, c, rfl⟩ := hv.shape
  cases p with
  | none =>
    have h0 : l = [] := by
      apply List.eq_nil_of_length_eq_zero
      rcases Nat.eq_zero_or_pos l.length with h | h
      · exact h
      · obtain ⟨b, off, hp, _⟩ := hv.cells 0 h
        cases hp
    subst h0
    refine (cloneBytes_nil 0 c w).mono ?_
    rintro e w' ⟨rfl, rfl⟩
    exact ⟨_, rfl, .inl ⟨rfl, _, _, rfl⟩, Below.refl _ _⟩
  | some a => exact cloneBytes_some a c l w hs hv.cells

set_option maxHeartbeats 400000 in
/-- zzBytes_FnHex4MatchesDigitSearch -/
theorem small6 (p : Option Addr) (n c : Nat) (w : World) (hm : n ≤ maxLen) :
    Calls Try.prog 6 #[.slice p n c] w fun e w' => e = .returned (.bool (decide (n ≤ 1048576))) ∧ w' = w := by
  unfold maxLen at hm
  by_cases h : n ≤ 1048576
  · have h1 : decide (n ≤ 1048576) = true := by simp [h]
    have h2 : ¬ (n : Int) > 1048576 := by omega
    rw [h1]
    go_enter Try.func6, Try.ntmps6
    go_wp2
    go_ret
    exact ⟨rfl, rfl⟩
  · have h1 : decide (n ≤ 1048576) = false := by simp [h]
    have h2 : (n : Int) > 1048576 := by omega
    rw [h1]
    go_enter Try.func6, Try.ntmps6
    go_wp2
    go_ret
    exact ⟨rfl, rfl⟩

set_option maxHeartbeats 400000 in
/-- zzBytes_FnHex4ReadsWhatWasWritten -/
theorem small10 (x y : Value) (p : Option Addr) (n c : Nat) (w : World) (hm : n ≤ maxLen) :
    Calls Try.prog 10 #[x, y, .slice p n c] w fun e w' => e = .returned (.bool (decide (n ≤ 1048576))) ∧ w' = w := by
  unfold maxLen at hm
  by_cases h : n ≤ 1048576
  · have h1 : decide (n ≤ 1048576) = true := by simp [h]
    have h2 : ¬ (n : Int) > 1048576 := by omega
    rw [h1]
    go_enter Try.func10, Try.ntmps10
    go_wp2
    go_ret
    exact ⟨rfl, rfl⟩
  · have h1 : decide (n ≤ 1048576) = false := by simp [h]
    have h2 : (n : Int) > 1048576 := by omega
    rw [h1]
    go_enter Try.func10, Try.ntmps10
    go_wp2
    go_ret
    exact ⟨rfl, rfl⟩

theorem HB.small {w : World} {p : Option Addr} {n c : Nat} {l : List UInt8} (h : HB w (.slice p n c) l) : n = l.length ∧ n ≤ maxLen := by
  rcases h with ⟨rfl, _, _, hv⟩ | ⟨b, off, cap, h0, hv, h1, h2, hc⟩
  · simp only [Value.slice.injEq] at hv
    obtain ⟨_, rfl, _⟩ := hv
    exact ⟨rfl, Nat.zero_le _⟩
  · simp only [Value.slice.injEq] at hv
    obtain ⟨_, rfl, _⟩ := hv
    exact ⟨rfl, by omega⟩

end Go.Proofs.Qxb6003135a
