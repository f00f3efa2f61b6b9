import Derived.Test.Qxb6603282aStepA
import Derived.BigRegion
namespace Go.Proofs.Qxb6603282a
open Go.RowKit
attribute [local go_sem] st_size st_toList st_get st_extract st_append

theorem two_new (w : World) (x y : Value) (t : TypeId) : ∀ j u, [x, y][j]? = some u → ((w.alloc (.cells #[x, y] t)).drew).cell? ((⟨w.heap.size, 0, none⟩ : Addr).add j) = some u := by
  intro j u hj
  match j, hj with
  | 0, hj =>
    simp at hj
    subst hj
    simp [Addr.add]
  | 1, hj =>
    simp at hj
    subst hj
    simp [Addr.add]

theorem slice_shape {w : World} {base : Nat} {e : TypeId} {s : Nat} {v : Value} {n : Nat} {xs : List Value} (h : w.ownsRow base e s v n xs) : ∃ p c, v = .slice p n c := by
  obtain ⟨_, h2⟩ := h
  rcases h2 with ⟨rfl, rfl⟩ | ⟨g, cap, cur, rfl, _⟩
  · exact ⟨_, _, rfl⟩
  · exact ⟨_, _, rfl⟩

/-- What the append of a rule leaves, told of the world ahead of it. -/
def AppRel (w : World) (mm : Int) (rs : List Rule) (r : Rule) (bL k : Nat) (Fc : Value) (w1 : World) : Prop :=
  ∀ (o : Obj) (w3 : World) (v' : Value), w3.ownsRow (w.heap.size + 1) 58 2 v' ((byL rs r.1).length + 1) (pc (byL rs r.1) ++ [.string (st r.2.1), .string (st r.2.2)]) →
    ((w1.alloc o).drew).grownBy w3 Fc.ownBlock → (v'.ownBlock = Fc.ownBlock ∨ v'.ownBlock = some ((w1.alloc o).drew).heap.size) →
    w3.cell? ⟨bL, k, none⟩ = some (.int .u8 (r.1.toNat : Int)) ∧ w3.cell? ⟨w.heap.size, r.1.toNat, none⟩ = some Fc ∧ w3.frozen? ⟨w.heap.size, r.1.toNat, none⟩ = false ∧
    StepInv w mm (rs ++ [r]) (w3.setCell ⟨w.heap.size, r.1.toNat, none⟩ v')

theorem appRel {w w1 : World} {mm : Int} {rs : List Rule} {r : Rule} {bL k : Nat} {F : Nat → Value} (h1 : w1.rowIs w.heap.size 56 257 F) (h2 : F 256 = .int .i64 mm) (h3 : ∀ c : UInt8, w1.ownsRow (w.heap.size + 1) 58 2 (F c.toNat) (byL rs c).length (pc (byL rs c)))
    (h4 : ∀ c c' : UInt8, c ≠ c' → (F c.toNat).ownBlock = none ∨ (F c.toNat).ownBlock ≠ (F c'.toNat).ownBlock) (h5 : Below w.heap.size w w1)
    (hL : w.cell? ⟨bL, k, none⟩ = some (.int .u8 (r.1.toNat : Int))) : AppRel w mm rs r bL k (F r.1.toNat) w1 := by
  intro o w3 v' g1 g2 g3
  have hb : Below w1.heap.size w1 (w1.alloc o).drew := ((Below.refl _ _).alloc (Nat.le_refl _) o).drew
  have hlt : r.1.toNat < 256 := r.1.toNat_lt
  have hr : ∀ k', (F r.1.toNat).ownBlock = some k' → w.heap.size + 1 ≤ k' := fun k' hk => ((h3 r.1).lt k' hk).1
  have row2 : (w1.alloc o).drew.rowIs w.heap.size 56 257 F := h1.of_block (hb.block _ h1.lt)
  have row3 : w3.rowIs w.heap.size 56 257 F := row2.of_block (g2.block _ row2.lt (fun e => by have := hr _ e.symm; omega))
  have b2 : Below w.heap.size w (w1.alloc o).drew := h5.trans (hb.mono h5.size)
  have b3 : Below w.heap.size w w3 := b2.grown g2 b2.size (fun k' hk => by have := hr k' hk; omega)
  refine ⟨(b3.cell (p := ⟨bL, k, none⟩) (World.block_lt_of_cell? w _ hL)).trans hL, row3.cell (by omega), row3.frozen _, ?_⟩
  refine StepInv.step row2 h2 (fun c => ?_) h4 b2 g1 g2 g3
  exact ((h3 c).alloc o)

set_option maxRecDepth 100000 in
set_option maxHeartbeats 2000000 in
/-- ZZReplaceSuffix: it files the rules, then applies the step. -/
theorem zzReplaceSuffix_of {w : World} (l : List UInt8) (bL bS bR : Nat) (mm : Int) {rs : List Rule} (hrs : rs.length ≤ 1048576)
    (hL : ∀ i (h : i < rs.length), w.cell? ⟨bL, i, none⟩ = some (.int .u8 (rs[i].1.toNat : Int)))
    (hS : ∀ i (h : i < rs.length), w.cell? ⟨bS, i, none⟩ = some (.string (st rs[i].2.1)))
    (hR : ∀ i (h : i < rs.length), w.cell? ⟨bR, i, none⟩ = some (.string (st rs[i].2.2)))
    {out : List UInt8} (h37 : ∀ w', StepInv w mm rs w' → Calls Try.prog 37 #[.string (st l), .pointer (some ⟨w.heap.size, 0, none⟩)] w' fun e w'' => e = .returned (.string (st out)) ∧ Below w'.heap.size w' w'') :
    Calls Try.prog 18 #[.string (st l), .slice (some ⟨bL, 0, none⟩) rs.length rs.length, .slice (some ⟨bS, 0, none⟩) rs.length rs.length, .slice (some ⟨bR, 0, none⟩) rs.length rs.length, .int .i64 mm] w fun e w' => e = .returned (.string (st out)) ∧ Below w.heap.size w w' := by
  have H37 : Hid (∀ w', StepInv w mm rs w' → Calls Try.prog 37 #[.string (st l), .pointer (some ⟨w.heap.size, 0, none⟩)] w' fun e w'' => e = .returned (.string (st out)) ∧ Below w'.heap.size w' w'') := h37
  clear h37
  have hal := zero56
  have h256 := step256
  have HST : Hid (StepInv w mm [] _) := StepInv.start w mm
  go_enter Try.func18, Try.ntmps18
  go_wp2
  go_loopw [12] (fun i wr => ∃ k : Nat, k ≤ rs.length ∧ i = .int .i64 k ∧ StepInv w mm (rs.take k) wr) (fun i _ => rs.length - (intOf i).toNat)
  case atStart => exact ⟨0, Nat.zero_le _, rfl, by simpa using HST.out⟩
  case round =>
    clear HST
    obtain ⟨k, hk, rfl, hinv⟩ := hrel
    have HI : Hid (StepInv w mm (rs.take k) wr) := hinv
    have hbel : Below w.heap.size w wr := by obtain ⟨F, _, _, _, _, h⟩ := hinv; exact h
    by_cases hlt : k < rs.length
    · have kL := hL k hlt
      have kS := hS k hlt
      have kR := hR k hlt
      obtain ⟨r, hr⟩ : ∃ r, r = rs[k] := ⟨_, rfl⟩
      rw [← hr] at kL kS kR
      have HR : Hid (r = rs[k]) := hr
      have bLlt : bL < w.heap.size := World.block_lt_of_cell? w _ kL
      have hcS : wr.cell? ⟨bS, k, none⟩ = some (.string (st r.2.1)) := (hbel.cell (p := ⟨bS, k, none⟩) (World.block_lt_of_cell? w _ kS)).trans kS
      have hcR : wr.cell? ⟨bR, k, none⟩ = some (.string (st r.2.2)) := (hbel.cell (p := ⟨bR, k, none⟩) (World.block_lt_of_cell? w _ kR)).trans kR
      have hsz := hbel.size
      have bSlt : bS < wr.heap.size := by have := World.block_lt_of_cell? w _ kS; simp at this; omega
      have bRlt : bR < wr.heap.size := by have := World.block_lt_of_cell? w _ kR; simp at this; omega
      have hcS' : ∀ o, (wr.alloc o).cell? ⟨bS, k, none⟩ = some (.string (st r.2.1)) := fun o => by rw [World.cell?_alloc_lt _ _ _ bSlt]; exact hcS
      have hcR' : ∀ o, (wr.alloc o).cell? ⟨bR, k, none⟩ = some (.string (st r.2.2)) := fun o => by rw [World.cell?_alloc_lt _ _ _ bRlt]; exact hcR
      clear hL hS hR kS kR hal h256 hinv hr hbel
      go_wp2
      go_region
      go_wp2
      obtain ⟨w1, hw1⟩ : ∃ w1, w1 = (wr.alloc (.cells #[.string (st r.2.1), .string (st r.2.2)] 58)).drew := ⟨_, rfl⟩
      rw [← hw1]
      have x1 : w1.cell? ⟨wr.heap.size, 0, none⟩ = some (.string (st r.2.1)) := by rw [hw1]; simp
      have x2 : w1.cell? ⟨wr.heap.size, 1, none⟩ = some (.string (st r.2.2)) := by rw [hw1]; simp
      have hb1 : Below wr.heap.size wr w1 := by rw [hw1]; exact ((Below.refl _ _).alloc (Nat.le_refl _) _).drew
      obtain ⟨F, r1, r2, r3, r4, r5⟩ := HI.out.below hb1
      have cL : w1.cell? ⟨bL, k, none⟩ = some (.int .u8 (r.1.toNat : Int)) := (r5.cell (p := ⟨bL, k, none⟩) bLlt).trans kL
      have hcN : r.1.toNat < 256 := r.1.toNat_lt
      have cT := r1.cell (show r.1.toNat < 257 by omega)
      have fT := r1.frozen r.1.toNat
      have HO : Hid (∀ o, ((w1.alloc o).drew).ownsRow (w.heap.size + 1) 58 2 (F r.1.toNat) (byL (rs.take k) r.1).length (pc (byL (rs.take k) r.1))) := fun o => (r3 r.1).alloc o
      have HA : Hid (AppRel w mm (rs.take k) r bL k (F r.1.toNat) w1) := appRel r1 r2 r3 r4 r5 kL
      obtain ⟨pf, cf, hF⟩ := slice_shape (r3 r.1)
      have hnl : (byL (rs.take k) r.1).length ≤ 1048576 := Nat.le_trans (byL_length_le _ _) (by simp; omega)
      have hs1 : w.heap.size + 1 ≤ w1.heap.size + 1 := by have := r5.size; omega
      have hs2 : w.heap.size < w1.heap.size := r1.lt
      rw [hF] at cT HO HA
      have cL' : ∀ o, (w1.alloc o).cell? ⟨bL, k, none⟩ = some (.int .u8 (r.1.toNat : Int)) := fun o => by rw [World.cell?_alloc_lt _ _ _ (World.block_lt_of_cell? w1 _ cL)]; exact cL
      have cT' : ∀ o, (w1.alloc o).cell? ⟨w.heap.size, r.1.toNat, none⟩ = some (.slice pf (byL (rs.take k) r.1).length cf) := fun o => by rw [World.cell?_alloc_lt _ _ _ hs2]; exact cT
      clear r1 r2 r3 r4 r5 hb1 hw1 hF kL hcS hcR hcS' hcR' bSlt bRlt
      have hcI : (r.1.toNat : Int) < 256 := by omega
      obtain ⟨i0, hi, hz0, hz1, hz2⟩ := info_parts info58
      have HT : Hid (rs.take (k + 1) = rs.take k ++ [r]) := by show _ = _; rw [List.take_succ_eq_append_getElem hlt, HR.out]
      go_region_law (refine step_append_own_at rfl (.tmp 41) (.tmp 43) 53 rfl (w.heap.size + 1) 58 i0 (.agg #[.string ByteArray.empty, .string ByteArray.empty]) 2 32 Try.underlying53 hi hz0 hz1 hz2 rfl (by decide) (.slice pf (byL (rs.take k) r.1).length cf) (byL (rs.take k) r.1).length (pc (byL (rs.take k) r.1)) (by simp [Act.eval]) (HO.out _) ⟨w1.heap.size, 0, none⟩ 1 1 [.string (st r.2.1), .string (st r.2.2)] (by simp [Act.eval]) rfl (two_new _ _ _ _) (by intro u hu; simp at hu; rcases hu with rfl | rfl <;> rfl) (by unfold maxLen; omega) (by omega) (by simpa using hs1) ?_; intro v' w3 g1 g2 g3; have H3 := HA.out _ _ _ g1 g2 g3; obtain ⟨pv, cv, hv'⟩ := slice_shape g1; subst hv'; have y1 := H3.1; have y2 := H3.2.1; have y3 := H3.2.2.1; have H4 : Hid (StepInv w mm _ _) := H3.2.2.2; clear g1 g2 g3 H3)
      all_goals
        go_wp2
        go_roundw
        case rel => exact ⟨k + 1, by omega, by go_num, by rw [HT.out]; exact H4.out⟩
        case measure => simp [intOf]; omega
    · have ek : rs.take k = rs := List.take_of_length_le (by omega)
      rw [ek] at hinv
      have HC := H37.out wr hinv
      have HC' : Hid (Calls Try.prog 37 #[.string (st l), .pointer (some ⟨w.heap.size, 0, none⟩)] wr fun e w'' => e = .returned (.string (st out)) ∧ Below wr.heap.size wr w'') := HC
      clear hL hS hR hal h256 hinv HC ek
      go_wp2_with (go_at_call 37; refine HC'.out.mono ?_; rintro e w2 ⟨rfl, hb⟩)
      go_ret
      exact ⟨rfl, hbel.trans (hb.mono hbel.size)⟩

end Go.Proofs.Qxb6603282a
