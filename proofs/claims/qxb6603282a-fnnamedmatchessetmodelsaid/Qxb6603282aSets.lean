import Derived.Test.Qxb6603282aClone
import Derived.Maps.OwnSet
namespace Go.Proofs.Qxb6603282a
open Go.RowKit
open Go.Maps (Keyed)

theorem key9 : Keyed Try.prog 9 := Go.Maps.string_keyed Try.underlying9
theorem zero4 (w : World) : (zeroValue 4).run Try.prog w = .ok (.bool false) w := by kernel_rfl

/-- Block b is a map[string]bool of at most n entries; f tells what it holds; s: how many. -/
def MB (w : World) (b n : Nat) (f : List UInt8 → Option Bool) (s : Nat) : Prop :=
  ∃ D : DataW Unit, w.ownsMap Try.prog 9 (plainElem Try.prog 4) b n D ∧
    (∀ l, Go.Maps.has D (.string l) = (f l).isSome ∧ D.atKey (.string l) (.lit (.bool false)) = .lit (.bool ((f l).getD false))) ∧ Go.Maps.size D = s

def upd (f : List UInt8 → Option Bool) (l : List UInt8) (v : Bool) : List UInt8 → Option Bool := fun x => if x = l then some v else f x
/-- How many entries behind a store at l. -/
def cnt (f : List UInt8 → Option Bool) (l : List UInt8) (s : Nat) : Nat := if (f l).isSome then s else s + 1
theorem upd_same (f : List UInt8 → Option Bool) (l : List UInt8) (v : Bool) : upd f l v l = some v := by simp [upd]
theorem upd_other {f : List UInt8 → Option Bool} {l x : List UInt8} (v : Bool) (h : x ≠ l) : upd f l v x = f x := by simp [upd, h]

theorem MB.lt {w : World} {b n : Nat} {f : List UInt8 → Option Bool} {s : Nat} (h : MB w b n f s) : b < w.heap.size := by
  obtain ⟨D, h1, _⟩ := h
  exact h1.lt

theorem MB.block {w w' : World} {b n : Nat} {f : List UInt8 → Option Bool} {s : Nat} (h : MB w b n f s) (e : w'.heap[b]? = w.heap[b]?) : MB w' b n f s := by
  obtain ⟨D, ⟨es, clock, hb, r⟩, h2⟩ := h
  exact ⟨D, ⟨es, clock, e.trans hb, r⟩, h2⟩

theorem MB.isMap {w : World} {b n : Nat} {f : List UInt8 → Option Bool} {s : Nat} (h : MB w b n f s) : ∃ es c, w.heap[b]? = some (.map es c) := by
  obtain ⟨D, ⟨es, clock, hb, r⟩, h2⟩ := h
  exact ⟨es, clock, hb⟩

theorem MB.below {w w' : World} {B b n : Nat} {f : List UInt8 → Option Bool} {s : Nat} (h : MB w b n f s) (hb : Below B w w') (hB : w.heap.size ≤ B) : MB w' b n f s :=
  h.block (hb.block b (by have := h.lt; omega))

theorem MB.mono {w : World} {b n n' : Nat} {f : List UInt8 → Option Bool} {s : Nat} (h : MB w b n f s) (hn : n ≤ n') : MB w b n' f s := by
  obtain ⟨D, h1, h2⟩ := h
  exact ⟨D, h1.mono hn, h2⟩

theorem MB.made (w : World) : MB (w.alloc (.map #[] 0)) w.heap.size 0 (fun _ => none) 0 :=
  ⟨.map [], World.ownsMap_made _ _ _ _, fun _ => ⟨rfl, rfl⟩, rfl⟩

theorem keyStr {l : List UInt8} (h : l.length ≤ maxLen) : keyOf Try.prog 9 (.string (str l)) = some (.string l) := by
  have := WideMaps.keyOf_string_mk (P := Try.prog) (k := 9) Try.underlying9 (s := str l) (by rw [str_size]; exact h)
  rw [str_data] at this
  exact this

theorem boolElem_inv {v : Value} {z : DataW Unit × List MemPlace} (h : plainElem Try.prog 4 v = some z) : ∃ x, v = .bool x ∧ z = (.lit (.bool x), []) := by
  unfold plainElem at h
  rw [Try.underlying4] at h
  cases v <;> simp at h
  exact ⟨_, rfl, h.symm⟩

/-- 'm[k]'. -/
theorem MB.look {w : World} {b n : Nat} {f : List UInt8 → Option Bool} {s : Nat} (h : MB w b n f s) {l : List UInt8} (hl : l.length ≤ maxLen) :
    (Instr.lookup 41 (.map (some b)) (.string (str l)) false).run Try.prog w = .ok (.bool ((f l).getD false)) w := by
  obtain ⟨D, h1, h2, _⟩ := h
  obtain ⟨v, ps, hrun, hv⟩ := h1.lookup key9 Try.underlying41 (zero4 w) (plainElem_bool Try.underlying4 false) (keyStr hl)
  obtain ⟨x, rfl, hx⟩ := boolElem_inv hv
  rw [(h2 l).2] at hx
  simp at hx
  rw [hrun, hx.1]

/-- 'v, ok := m[k]'. -/
theorem MB.look_ok {w : World} {b n : Nat} {f : List UInt8 → Option Bool} {s : Nat} (h : MB w b n f s) {l : List UInt8} (hl : l.length ≤ maxLen) :
    (Instr.lookup 41 (.map (some b)) (.string (str l)) true).run Try.prog w = .ok (.tuple #[.bool ((f l).getD false), .bool (f l).isSome]) w := by
  obtain ⟨D, h1, h2, _⟩ := h
  obtain ⟨v, ps, hrun, hv⟩ := h1.look_ok key9 Try.underlying41 (zero4 w) (plainElem_bool Try.underlying4 false) (keyStr hl)
  obtain ⟨x, rfl, hx⟩ := boolElem_inv hv
  rw [(h2 l).2] at hx
  simp at hx
  rw [hrun, hx.1, (h2 l).1]

/-- 'len(m)'. -/
theorem MB.len {w : World} {b n : Nat} {f : List UInt8 → Option Bool} {s : Nat} (h : MB w b n f s) (ty : TypeId) : (Builtin.len_ #[41] ty #[.map (some b)]).run Try.prog w = .ok (.int .i64 s) w := by
  obtain ⟨D, h1, _, h3⟩ := h
  rw [h1.len Try.underlying41 ty, h3]

theorem MB.size_le {w : World} {b n : Nat} {f : List UInt8 → Option Bool} {s : Nat} (h : MB w b n f s) : s ≤ n := by
  obtain ⟨D, h1, _, h3⟩ := h
  rw [← h3]
  exact h1.size_le

/-- w' is w but for the entries of the map in block b, and draws. -/
def MT (w w' : World) (b : Nat) : Prop := w.grownBy w' (some b) ∧ ∃ es c, w.heap[b]? = some (.map es c)

theorem MT.ofDrewN {w w' : World} {b j : Nat} (h : MT (w.drewN j) w' b) : MT w w' b := by
  obtain ⟨h1, es, c, h2⟩ := h
  exact ⟨⟨h1.os, h1.tape, h1.output, by simpa using h1.size, fun k hk hne => by simpa using h1.block k (by simpa using hk) hne⟩, es, c, by simpa using h2⟩

/-- 'm[k] = v'. -/
theorem MB.store {w : World} {b n : Nat} {f : List UInt8 → Option Bool} {s : Nat} (h : MB w b n f s) (hn : n < maxLen) {l : List UInt8} (hl : l.length ≤ maxLen) (v : Bool) :
    ∃ w', (Instr.mapUpdate 41 (.map (some b)) (.string (str l)) (.bool v)).run Try.prog w = .ok () w' ∧ MB w' b (n + 1) (upd f l v) (cnt f l s) ∧ MT w w' b := by
  obtain ⟨D, h1, h2, h3⟩ := h
  obtain ⟨w', hrun, ho, ht⟩ := h1.store key9 Try.underlying41 hn (keyStr hl) (plainElem_bool Try.underlying4 v)
  have hmp : MT w w' b := ⟨ht.grown, by obtain ⟨es, c, _, _, hb, _⟩ := ht; exact ⟨es, c, hb⟩⟩
  refine ⟨w', hrun, ⟨_, ho, fun x => ?_, ?_⟩, hmp⟩
  · by_cases e : x = l
    · subst e
      have hk : WideAt.IsKeyLit (Lit.string x) := trivial
      rw [Go.Maps.has_put_same h1.isMap hk, Go.Maps.atKey_put_same h1.isMap hk, upd_same]
      exact ⟨rfl, rfl⟩
    · have e' : Lit.string x ≠ Lit.string l := fun h => e (by injection h)
      rw [Go.Maps.has_put_other e', Go.Maps.atKey_put_other e', upd_other v e]
      exact h2 x
  · rw [Go.Maps.size_put (h1.tidy key9), (h2 l).1, h3]
    rfl

/-- A nil map holds nothing. -/
theorem look_nil (w : World) {l : List UInt8} (hl : l.length ≤ maxLen) :
    (Instr.lookup 41 (.map none) (.string (str l)) false).run Try.prog w = .ok (.bool false) w := by
  have := Go.Maps.look_nil (P := Try.prog) (w := w) (t := 41) false key9 Try.underlying41 (zero4 w) (keyStr hl)
  simpa using this

/-- 'make(map[string]bool, n)'. -/
theorem makeMap_hint (w : World) (n : Int) : (Instr.makeMap 41 (some (.int .i64 n))).run Try.prog w = .ok (.map (some w.heap.size)) (w.alloc (.map #[] 0)) := by
  simp [Instr.makeMap, run_underlying Try.underlying41, asInt]
  rfl

theorem turned_own {w w' : World} {b base : Nat} {e : TypeId} {sz : Nat} {v : Value} {n : Nat} {xs : List Value} (h : w.ownsRow base e sz v n xs) (ht : MT w w' b) : w'.ownsRow base e sz v n xs := by
  obtain ⟨h1, h2⟩ := h
  refine ⟨h1, ?_⟩
  rcases h2 with h2 | ⟨g, cap, cur, hv, hg, hh, r⟩
  · exact Or.inl h2
  · refine Or.inr ⟨g, cap, cur, hv, hg, ?_, r⟩
    have hlt := (Array.getElem?_eq_some_iff.1 hh).1
    obtain ⟨hgr, es, c, hb⟩ := ht
    rw [hgr.block g hlt (fun e => by simp at e; subst e; rw [hh] at hb; cases hb)]
    exact hh

theorem turned_on {w w' : World} {b base : Nat} {v : Value} {ls : List (List UInt8)} (h : ON w base v ls) (ht : MT w w' b) : ON w' base v ls := by
  obtain ⟨vs, h1, h2⟩ := h
  refine ⟨vs, turned_own h1 ht, fun i hi => ?_⟩
  obtain ⟨u, hu, ho⟩ := h2 i hi
  exact ⟨u, hu, turned_own ho ht⟩

theorem MT.lt {w w' : World} {b : Nat} (ht : MT w w' b) : b < w.heap.size := by
  obtain ⟨_, es, c, hb⟩ := ht
  exact (Array.getElem?_eq_some_iff.1 hb).1

theorem MT.below {w w' : World} {b B : Nat} (ht : MT w w' b) (hB : B ≤ b) : Below B w w' := by
  have hlt := ht.lt
  obtain ⟨hg, _⟩ := ht
  exact ⟨hg.os, hg.tape, hg.output, hg.size, fun k hk => hg.block k (by omega) (by simp; omega)⟩

theorem MT.other {w w' : World} {b k : Nat} (ht : MT w w' b) (hk : k < w.heap.size) (hne : k ≠ b) : w'.heap[k]? = w.heap[k]? := ht.1.block k hk (by simpa using hne)

theorem MT.hb {w w' : World} {b : Nat} {v : Value} {l : List UInt8} (ht : MT w w' b) (h : HB w v l) : HB w' v l := by
  rcases h with h | ⟨g, off, cap, h0, hv, h1, h2, hc⟩
  · exact .inl h
  · refine .inr ⟨g, off, cap, h0, hv, h1, h2, fun i hi => ?_⟩
    have hci := hc i hi
    have hlt := World.block_lt_of_cell? w _ hci
    have hne : g ≠ b := by
      rintro rfl
      obtain ⟨_, es, c, hb⟩ := ht
      simp [World.cell?, hb] at hci
    rw [World.cell?_of_block (ht.other (k := g) (by simpa using hlt) hne)]
    exact hci

theorem drewN_below (B : Nat) (w : World) (j : Nat) : Below B w (w.drewN j) := ⟨rfl, rfl, rfl, Nat.le_refl _, fun _ _ => rfl⟩

end Go.Proofs.Qxb6603282a
