import Derived.Test.Qxb6603282aSplit
import Derived.Deep.RegionLaw
import Derived.Maps.AppendAt
namespace Go.Proofs.Qxb6603282a
open Go.RowKit
attribute [local go_sem] st_size st_toList st_get st_extract st_append

/-- The cells of a porterStep as it is made. -/
def stepCells : Array Value := Array.replicate 256 (.slice none 0 0) ++ #[.int .i64 0]
theorem zero56 (w : World) : (zeroValue 56).run Try.prog w = .ok (.agg stepCells) w := by kernel_rfl
theorem step256 : stepCells[256]? = some (.int .i64 0) := by kernel_rfl
theorem stepLow {i : Nat} (h : i < 256) : stepCells[i]? = some (.slice none 0 0) := by
  unfold stepCells
  rw [Array.getElem?_append_left (by simpa using h)]
  simp [h]
theorem info58 : (Try.prog.info? 58).map (fun i => (i.zero, i.size, i.bytes)) = some (some (.agg #[.string ByteArray.empty, .string ByteArray.empty]), 2, 32) := by kernel_rfl

/-- The rules under a letter. -/
def byL (rs : List Rule) (c : UInt8) : List Rule := rs.filter fun r => r.1 == c
/-- Their cells. -/
def pc (rs : List Rule) : List Value := rs.flatMap fun r => [.string (st r.2.1), .string (st r.2.2)]

theorem pc_length (rs : List Rule) : (pc rs).length = rs.length * 2 := by
  induction rs with
  | nil => rfl
  | cons r rs ih =>
    have e : pc (r :: rs) = [.string (st r.2.1), .string (st r.2.2)] ++ pc rs := rfl
    rw [e, List.length_append, ih]
    simp
    omega
theorem pc_append (a b : List Rule) : pc (a ++ b) = pc a ++ pc b := by simp [pc]
theorem byL_length_le (rs : List Rule) (c : UInt8) : (byL rs c).length ≤ rs.length := List.length_filter_le _ _
theorem byL_snoc_same (rs : List Rule) (r : Rule) : byL (rs ++ [r]) r.1 = byL rs r.1 ++ [r] := by simp [byL]
theorem byL_snoc_other (rs : List Rule) (r : Rule) {c : UInt8} (h : c ≠ r.1) : byL (rs ++ [r]) c = byL rs c := by
  have : (r.1 == c) = false := by simpa using fun e => h e.symm
  simp [byL, this]

/-- A porterStep in block w.heap.size, the rules rs filed in it. -/
def StepInv (w : World) (mm : Int) (rs : List Rule) (wr : World) : Prop :=
  ∃ F : Nat → Value, wr.rowIs w.heap.size 56 257 F ∧ F 256 = .int .i64 mm ∧ (∀ c : UInt8, wr.ownsRow (w.heap.size + 1) 58 2 (F c.toNat) (byL rs c).length (pc (byL rs c))) ∧
    (∀ c c' : UInt8, c ≠ c' → (F c.toNat).ownBlock = none ∨ (F c.toNat).ownBlock ≠ (F c'.toNat).ownBlock) ∧ Below w.heap.size w wr

theorem StepInv.start (w : World) (mm : Int) : StepInv w mm [] (w.alloc (.cells (stepCells.setIfInBounds 256 (.int .i64 mm)) 56)) := by
  have hlow : ∀ c : UInt8, c.toNat < 256 := fun c => c.toNat_lt
  refine ⟨fun i => if i = 256 then .int .i64 mm else .slice none 0 0, ⟨_, heap_alloc_new _ _, by simp [stepCells], fun i hi => ?_⟩, by simp, fun c => ?_, fun c c' _ => ?_, (Below.refl _ _).alloc (Nat.le_refl _) _⟩
  · by_cases e : i = 256
    · subst e
      simp [stepCells]
    · rw [Array.getElem?_setIfInBounds_ne (by omega), stepLow (by omega)]
      simp only [if_neg e]
  · have := hlow c
    simp only [if_neg (show ¬ c.toNat = 256 by omega)]
    exact World.ownsRow_nil _ _ _ _
  · have := hlow c
    simp only [if_neg (show ¬ c.toNat = 256 by omega)]
    exact .inl rfl

theorem StepInv.below {w wr w' : World} {mm : Int} {rs : List Rule} (h : StepInv w mm rs wr) (hb : Below wr.heap.size wr w') : StepInv w mm rs w' := by
  obtain ⟨F, h1, h2, h3, h4, h5⟩ := h
  refine ⟨F, h1.of_block (hb.block _ h1.lt), h2, fun c => ?_, h4, h5.trans (hb.mono h5.size)⟩
  obtain ⟨x1, x2⟩ := h3 c
  refine ⟨x1, ?_⟩
  rcases x2 with x2 | ⟨g, cap, cur, hv, hg, hh, r⟩
  · exact .inl x2
  · exact .inr ⟨g, cap, cur, hv, hg, by rw [hb.block g (Array.getElem?_eq_some_iff.1 hh).1]; exact hh, r⟩

theorem StepInv.step {w w2 w3 : World} {mm : Int} {rs : List Rule} {r : Rule} {F : Nat → Value} {v' : Value}
    (h1 : w2.rowIs w.heap.size 56 257 F) (h2 : F 256 = .int .i64 mm) (h3 : ∀ c : UInt8, w2.ownsRow (w.heap.size + 1) 58 2 (F c.toNat) (byL rs c).length (pc (byL rs c)))
    (h4 : ∀ c c' : UInt8, c ≠ c' → (F c.toNat).ownBlock = none ∨ (F c.toNat).ownBlock ≠ (F c'.toNat).ownBlock) (h5 : Below w.heap.size w w2)
    (g1 : w3.ownsRow (w.heap.size + 1) 58 2 v' ((byL rs r.1).length + 1) (pc (byL rs r.1) ++ [.string (st r.2.1), .string (st r.2.2)])) (g2 : w2.grownBy w3 (F r.1.toNat).ownBlock)
    (g3 : v'.ownBlock = (F r.1.toNat).ownBlock ∨ v'.ownBlock = some w2.heap.size) :
    StepInv w mm (rs ++ [r]) (w3.setCell ⟨w.heap.size, r.1.toNat, none⟩ v') := by
  have hlow : ∀ c : UInt8, c.toNat < 256 := fun c => c.toNat_lt
  have hinj : ∀ c c' : UInt8, c.toNat = c'.toNat → c = c' := fun c c' h => UInt8.toNat_inj.1 h
  have hown : ∀ (c : UInt8) k, (F c.toNat).ownBlock = some k → w.heap.size + 1 ≤ k ∧ k < w2.heap.size := fun c k hk => (h3 c).lt k hk
  have row3 : w3.rowIs w.heap.size 56 257 F := h1.of_block (g2.block _ h1.lt (fun e => by have := hown _ _ e.symm; omega))
  refine ⟨fun j => if j = r.1.toNat then v' else F j, row3.set _ _, ?_, fun c => ?_, fun c c' hne => ?_, ?_⟩
  · have := hlow r.1
    simp only [if_neg (show ¬ 256 = r.1.toNat by omega), h2]
  · by_cases e : c = r.1
    · subst e
      simp only [if_true]
      rw [byL_snoc_same, pc_append]
      refine ownsRow_setCell_below ?_ (by simp) _
      simpa [pc] using g1
    · have hne : ¬ c.toNat = r.1.toNat := fun h => e (hinj _ _ h)
      simp only [if_neg hne]
      rw [byL_snoc_other _ _ e]
      exact ownsRow_setCell_below ((h3 c).kept g2 (h4 c r.1 e)) (by simp) _
  · by_cases e : c = r.1
    · subst e
      have hne' : ¬ c'.toNat = r.1.toNat := fun h => hne (hinj _ _ h).symm
      simp only [if_true, if_neg hne']
      rcases g3 with g3 | g3
      · rw [g3]; exact h4 _ _ hne
      · rw [g3]
        exact .inr fun e => by have := hown _ _ e.symm; omega
    · have hne1 : ¬ c.toNat = r.1.toNat := fun h => e (hinj _ _ h)
      simp only [if_neg hne1]
      by_cases e' : c' = r.1
      · subst e'
        simp only [if_true]
        rcases g3 with g3 | g3
        · rw [g3]; exact h4 _ _ hne
        · rw [g3]
          cases hv : (F c.toNat).ownBlock with
          | none => exact .inl rfl
          | some k =>
            refine .inr fun e => ?_
            have := hown _ _ hv
            simp at e
            omega
      · have hne2 : ¬ c'.toNat = r.1.toNat := fun h => e' (hinj _ _ h)
        simp only [if_neg hne2]
        exact h4 _ _ hne
  · exact (h5.grown g2 h5.size (fun k hk => by have := hown _ _ hk; omega)).setCell (Nat.le_refl _) _

/-- 'append' onto a slice of the call's own, as one step of a region that draws its order. -/
theorem step_append_own_at {P : Program} {ops : Array Oper} {o : Oper} {a : Act} {w : World} {K : Act → World → Prop} {Q : Exit → Act → World → Prop} {E : Prop}
    (hgd : o.guard = none) (s x : Operand) (t : TypeId) (ho : o.op = .call { callee := .builtin .append, args := #[s, x], argTypes := #[t, t] })
    (base : Nat) (e : TypeId) (i : TypeInfo) (z : Value) (size bytes : Nat) (ht : P.underlying t = some (.slice e)) (hi : P.info? e = some i) (hz : i.zero = some z)
    (hsize : i.size = size) (hby : i.bytes = bytes) (hzs : z.cells.size = size) (hsz : 0 < size)
    (v : Value) (n : Nat) (xs : List Value) (hs : a.eval s = v) (hown : w.ownsRow base e size v n xs)
    (ad : Addr) (m c : Nat) (news : List Value) (hx : a.eval x = .slice (some ad) m c) (hl : news.length = m * size) (hnews : ∀ j u, news[j]? = some u → w.cell? (ad.add j) = some u) (h1 : ∀ u ∈ news, u.oneCell' = true)
    (h63 : n + m ≤ maxLen) (hbytes : (n + m) * bytes ≤ 140737488355328) (hbase : base ≤ w.heap.size)
    (h : ∀ v' w', w'.ownsRow base e size v' (n + m) (xs ++ news) → w.grownBy w' v.ownBlock → (v'.ownBlock = v.ownBlock ∨ v'.ownBlock = some w.heap.size) → K (a.put o.dst v') w') :
    if Region.wanted o (yielded ops a.tmps) = true then Oper.wp P o a w K Q else E := by
  have hw : Region.wanted o (yielded ops a.tmps) = true := by simp [Region.wanted, hgd]
  rw [if_pos hw]
  obtain ⟨v', w', hr, h2, h3, _, h5⟩ := run_append_own_at (P := P) w base t o.type e i z size bytes ht hi hz hsize hby hzs hsz v n xs hown ad m c news hl hnews h1 h63 hbytes hbase
  unfold Oper.wp
  simp [execOp, ho, resolve, invoke, builtin, hs, hx, hr, Result.andThen]
  exact h v' w' h2 h3 h5

end Go.Proofs.Qxb6603282a
