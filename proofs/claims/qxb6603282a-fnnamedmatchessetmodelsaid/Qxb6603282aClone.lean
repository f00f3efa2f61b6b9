import Derived.Test.Qxb6603282aNested
import Derived.Deep.OwnRows
namespace Go.Proofs.Qxb6603282a
open Go.RowKit

theorem own_below {w w' : World} {B base : Nat} {e : TypeId} {s : Nat} {v : Value} {n : Nat} {xs : List Value} (h : w.ownsRow base e s v n xs) (hb : Below B w w') (hB : w.heap.size ≤ B) : w'.ownsRow base e s v n xs := by
  obtain ⟨h1, h2⟩ := h
  refine ⟨h1, ?_⟩
  rcases h2 with h2 | ⟨g, cap, cur, hv, hg, hh, r⟩
  · exact Or.inl h2
  · have := (Array.getElem?_eq_some_iff.1 hh).1
    exact Or.inr ⟨g, cap, cur, hv, hg, by rw [hb.block g (by omega)]; exact hh, r⟩

theorem own_mono {w : World} {base base' : Nat} {e : TypeId} {s : Nat} {v : Value} {n : Nat} {xs : List Value} (h : w.ownsRow base e s v n xs) (hb : base' ≤ base) : w.ownsRow base' e s v n xs := by
  obtain ⟨h1, h2⟩ := h
  refine ⟨h1, ?_⟩
  rcases h2 with h2 | ⟨g, cap, cur, hv, hg, r⟩
  · exact Or.inl h2
  · exact Or.inr ⟨g, cap, cur, hv, by omega, r⟩

theorem row_below {w w' : World} {B b : Nat} {t : TypeId} {n : Nat} {f : Nat → Value} (h : w.rowIs b t n f) (hb : Below B w w') (hB : w.heap.size ≤ B) : w'.rowIs b t n f :=
  h.of_block (hb.block b (by have := h.lt; omega))

/-- A row of bytes lies in no block of slices. -/
theorem own_setCell {w : World} {base b i : Nat} {v u : Value} {n m : Nat} {xs : List Value} {f : Nat → Value} (h : w.ownsRow base 5 1 v n xs) (hr : w.rowIs b 28 m f) : (w.setCell ⟨b, i, none⟩ u).ownsRow base 5 1 v n xs := by
  obtain ⟨h1, h2⟩ := h
  refine ⟨h1, ?_⟩
  rcases h2 with h2 | ⟨g, cap, cur, hv, hg, hh, r⟩
  · exact Or.inl h2
  · refine Or.inr ⟨g, cap, cur, hv, hg, ?_, r⟩
    rw [Below.heap_setCell _ _ _ _ ?_]
    · exact hh
    · intro e
      simp at e
      obtain ⟨c, hb, _⟩ := hr
      rw [← e, hh] at hb
      simp at hb

theorem own_shape {w : World} {base : Nat} {e : TypeId} {s : Nat} {v : Value} {n : Nat} {xs : List Value} (h : w.ownsRow base e s v n xs) : ∃ p c, v = .slice p n c := by
  obtain ⟨_, h2⟩ := h
  rcases h2 with ⟨rfl, rfl⟩ | ⟨g, cap, cur, rfl, _⟩
  · exact ⟨_, _, rfl⟩
  · exact ⟨_, _, rfl⟩

/-- The call's own slice of slices of bytes. -/
def ON (w : World) (base : Nat) (v : Value) (ls : List (List UInt8)) : Prop :=
  ∃ vs, w.ownsRow base 28 1 v ls.length vs ∧ ∀ i (h : i < ls.length), ∃ u, vs[i]? = some u ∧ w.ownsRow base 5 1 u ls[i].length (bv ls[i])

theorem ON.below {w w' : World} {B base : Nat} {v : Value} {ls : List (List UInt8)} (h : ON w base v ls) (hb : Below B w w') (hB : w.heap.size ≤ B) : ON w' base v ls := by
  obtain ⟨vs, h1, h2⟩ := h
  refine ⟨vs, own_below h1 hb hB, fun i hi => ?_⟩
  obtain ⟨u, hu, ho⟩ := h2 i hi
  exact ⟨u, hu, own_below ho hb hB⟩

theorem ON.mono {w : World} {base base' : Nat} {v : Value} {ls : List (List UInt8)} (h : ON w base v ls) (hb : base' ≤ base) : ON w base' v ls := by
  obtain ⟨vs, h1, h2⟩ := h
  refine ⟨vs, own_mono h1 hb, fun i hi => ?_⟩
  obtain ⟨u, hu, ho⟩ := h2 i hi
  exact ⟨u, hu, own_mono ho hb⟩

theorem info28 : (Try.prog.info? 28).map (fun i => (i.zero, i.size, i.bytes)) = some (some (.slice none 0 0), 1, 24) := by kernel_rfl

theorem eqNil36 (w : World) (a : Option Addr) (n c : Nat) : (binOp .eql 36 (.slice a n c) (.slice none 0 0)).run Try.prog w = .ok (.bool a.isNone) w :=
  Lib.run_eql_slice_nil w 36 28 a n c 0 0 Try.underlying36

set_option maxHeartbeats 400000 in
theorem cloneNames_nil (n c : Nat) (w : World) :
    Calls Try.prog 25 #[.slice none n c] w fun e w' => e = .returned (.slice none 0 0) ∧ w' = w := by
  have hq := eqNil36
  go_enter Try.func25, Try.ntmps25
  go_wp2
  go_ret
  exact ⟨rfl, rfl⟩

/-- What a round of the copying leaves. -/
theorem clone_step {w wr w1 : World} {B n k : Nat} {f : Nat → Value} {ls : List (List UInt8)} {u : Value} (hk : k < ls.length) (hrow : wr.rowIs B 28 n f)
    (hown : ∀ j (h : j < ls.length), j < k → wr.ownsRow B 5 1 (f j) ls[j].length (bv ls[j])) (hbel : Below B w wr)
    (h1 : w1.ownsRow wr.heap.size 5 1 u ls[k].length (bv ls[k])) (h2 : Below wr.heap.size wr w1) :
    (w1.setCell ⟨B, k, none⟩ u).rowIs B 28 n (fun j => if j = k then u else f j) ∧
    (∀ j (h : j < ls.length), j < k + 1 → (w1.setCell ⟨B, k, none⟩ u).ownsRow B 5 1 (if j = k then u else f j) ls[j].length (bv ls[j])) ∧ Below B w (w1.setCell ⟨B, k, none⟩ u) := by
  have hB := hrow.lt
  have r1 := row_below hrow h2 (Nat.le_refl _)
  refine ⟨r1.set k u, fun j hj hjk => ?_, (hbel.trans (h2.mono (by omega))).setCell (Nat.le_refl _) _⟩
  by_cases e : j = k
  · subst e
    rw [if_pos rfl]
    exact own_setCell (own_mono h1 (by omega)) r1
  · rw [if_neg e]
    exact own_setCell (own_below (hown j hj (by omega)) h2 (Nat.le_refl _)) r1

theorem on_of_row {w : World} {B n : Nat} {f : Nat → Value} {ls : List (List UInt8)} (hn : n = ls.length) (hm : n ≤ maxLen) (hrow : w.rowIs B 28 n f)
    (hown : ∀ j (h : j < ls.length), w.ownsRow B 5 1 (f j) ls[j].length (bv ls[j])) : ON w B (.slice (some ⟨B, 0, none⟩) n n) ls := by
  subst hn
  obtain ⟨c, hb, hs, hc⟩ := hrow
  refine ⟨c.toList, ⟨by simpa using hs, .inr ⟨B, ls.length, c, rfl, Nat.le_refl _, hb, Nat.le_refl _, hm, by omega, ?_⟩⟩, fun i hi => ⟨f i, ?_, hown i hi⟩⟩
  · rw [List.take_of_length_le (by simp; omega)]
  · simpa using hc i hi

set_option maxHeartbeats 400000 in
theorem cloneNames_some (a : Addr) (c : Nat) (ls : List (List UInt8)) (w : World) (hs : ls.length ≤ 1048576) (hs2 : ∀ i (h : i < ls.length), ls[i].length ≤ 1048576) (hc : HN w (some a) ls) :
    Calls Try.prog 25 #[.slice (some a) ls.length c] w fun e w' => ∃ v', e = .returned v' ∧ ON w' w.heap.size v' ls ∧ Below w.heap.size w w' := by
  have hq := eqNil36
  have hmk := run_make_row' (P := Try.prog) 36 28 (.slice none 0 0) 24 Try.underlying36 info28 rfl .i64 .i64 ls.length (by omega) (by omega)
  go_enter Try.func25, Try.ntmps25
  go_wp2
  go_loopw [4] (fun i wr => ∃ (k : Nat) (f : Nat → Value), k ≤ ls.length ∧ i = .int .i64 k ∧ wr.rowIs w.heap.size 28 ls.length f ∧
      (∀ j (h : j < ls.length), j < k → wr.ownsRow w.heap.size 5 1 (f j) ls[j].length (bv ls[j])) ∧ Below w.heap.size w wr) (fun i _ => ls.length - (intOf i).toNat)
  case atStart => exact ⟨0, _, Nat.zero_le _, rfl, World.rowIs_made _ _ _ _, by simp, (Below.refl _ _).alloc (Nat.le_refl _) _⟩
  case round =>
    obtain ⟨k, f, hk, rfl, hrow, hown, hbel⟩ := hrel
    by_cases hlt : k < ls.length
    · have hc' := hc.below hbel (Nat.le_refl _)
      obtain ⟨b, off, hp, v, hcell, hv⟩ := hc' k hlt
      simp only [Option.some.injEq] at hp
      subst hp
      have hB := hrow.lt
      have HST : Hid (∀ w1 u, w1.ownsRow wr.heap.size 5 1 u ls[k].length (bv ls[k]) → Below wr.heap.size wr w1 → _) := fun w1 u h1 h2 => clone_step (w := w) hlt hrow hown hbel h1 h2
      have HCL : Hid (Calls Try.prog 24 #[v] wr fun e w' => ∃ v', e = .returned v' ∧ w'.ownsRow wr.heap.size 5 1 v' ls[k].length (bv ls[k]) ∧ Below wr.heap.size wr w') := cloneBytes hv (hs2 k hlt)
      have HR : Hid (wr.rowIs w.heap.size 28 ls.length f) := hrow
      clear hc hc' hown hbel hv hrow
      go_wp2_with (go_at_call 24; refine HCL.out.mono ?_; rintro e w1 ⟨v', rfl, h1, h2⟩; obtain ⟨p', c', hv'⟩ := own_shape h1; have HR1 := row_below HR.out h2 (Nat.le_refl _); have hcw := HR1.cell hlt; have hfw := HR1.frozen k; subst hv')
      have R := HST.out w1 _ h1 h2
      go_roundw
      case rel => exact ⟨k + 1, _, by omega, by go_num, R.1, R.2.1, R.2.2⟩
      case measure => simp [intOf]; omega
    · clear hc
      go_wp2
      go_ret
      exact ⟨_, rfl, on_of_row rfl (by unfold maxLen; omega) hrow (fun j hj => hown j hj (by omega)), hbel⟩

/-- zzCloneNames. -/
theorem cloneNames {w : World} (p : Option Addr) (c : Nat) {ls : List (List UInt8)} (hc : HN w p ls) (hs : ls.length ≤ 1048576) (hs2 : ∀ i (h : i < ls.length), ls[i].length ≤ 1048576) :
    Calls Try.prog 25 #[.slice p ls.length c] w fun e w' => ∃ v', e = .returned v' ∧ ON w' w.heap.size v' ls ∧ Below w.heap.size w w' := by
  cases p with
  | none =>
    have h0 : ls = [] := by
      apply List.eq_nil_of_length_eq_zero
      rcases Nat.eq_zero_or_pos ls.length with h | h
      · exact h
      · obtain ⟨b, off, hp, _⟩ := hc 0 h
        cases hp
    subst h0
    refine (cloneNames_nil 0 c w).mono ?_
    rintro e w' ⟨rfl, rfl⟩
    exact ⟨_, rfl, ⟨[], World.ownsRow_nil _ _ _ _, by simp⟩, Below.refl _ _⟩
  | some a => exact cloneNames_some a c ls w hs hs2 hc

end Go.Proofs.Qxb6603282a
