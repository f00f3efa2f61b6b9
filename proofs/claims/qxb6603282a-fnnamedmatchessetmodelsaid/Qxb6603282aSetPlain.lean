import Derived.Test.Qxb6603282aZZNamed
namespace Go.Proofs.Qxb6603282a
open Go.RowKit

/-- The slice at p holds the strings ks. -/
def HK (w : World) (p : Option Addr) (ks : List (List UInt8)) : Prop :=
  ∀ i (h : i < ks.length), ∃ b off, p = some ⟨b, off, none⟩ ∧ w.cell? ⟨b, off + i, none⟩ = some (.string (str ks[i]))
/-- The slice at p holds the bools bs. -/
def HV (w : World) (p : Option Addr) (bs : List Bool) : Prop :=
  ∀ i (h : i < bs.length), ∃ b off, p = some ⟨b, off, none⟩ ∧ w.cell? ⟨b, off + i, none⟩ = some (.bool bs[i])

theorem HK.below {B : Nat} {w w' : World} {p : Option Addr} {ks : List (List UInt8)} (h : HK w p ks) (hb : Below B w w') (hB : w.heap.size ≤ B) : HK w' p ks := by
  intro i hi
  obtain ⟨b, off, hp, hc⟩ := h i hi
  have hlt := World.block_lt_of_cell? w _ hc
  refine ⟨b, off, hp, ?_⟩
  rw [hb.cell (p := ⟨b, off + i, none⟩) (by simp at hlt ⊢; omega)]
  exact hc
theorem HV.below {B : Nat} {w w' : World} {p : Option Addr} {bs : List Bool} (h : HV w p bs) (hb : Below B w w') (hB : w.heap.size ≤ B) : HV w' p bs := by
  intro i hi
  obtain ⟨b, off, hp, hc⟩ := h i hi
  have hlt := World.block_lt_of_cell? w _ hc
  refine ⟨b, off, hp, ?_⟩
  rw [hb.cell (p := ⟨b, off + i, none⟩) (by simp at hlt ⊢; omega)]
  exact hc

/-- What zzBuildSeen has put into the map by round k, and how many entries. -/
def bld (ks : List (List UInt8)) (vs : List Bool) : Nat → (List UInt8 → Option Bool) × Nat
  | 0 => (fun _ => none, 0)
  | k + 1 => (upd (bld ks vs k).1 (ks.getD k []) (vs.getD k true), cnt (bld ks vs k).1 (ks.getD k []) (bld ks vs k).2)

theorem bld_some (ks : List (List UInt8)) (vs : List Bool) (n : Nat) {k : Nat} (hk : k < n) : ((bld ks vs n).1 (ks.getD k [])).isSome = true := by
  induction n with
  | zero => omega
  | succ n ih =>
    simp only [bld, upd]
    split
    · rfl
    · rename_i hne
      have : k ≠ n := fun e => hne (by rw [e])
      exact ih (by omega)

theorem bld_le (ks : List (List UInt8)) (vs : List Bool) (n : Nat) : (bld ks vs n).2 ≤ n := by
  induction n with
  | zero => exact Nat.le_refl _
  | succ n ih =>
    simp only [bld, cnt]
    split <;> omega

theorem getD_eq {α : Type} {l : List α} {k : Nat} (h : k < l.length) (d : α) : l.getD k d = l[k] := by simp [List.getD, h]

set_option maxHeartbeats 800000 in
/-- zzBuildSeen -/
theorem buildSeen {w : World} (p q : Option Addr) (c d : Nat) {ks : List (List UInt8)} {vs : List Bool} (hk : HK w p ks) (hv : HV w q vs) (hks : ks.length ≤ 1048576) (hz : lens ks ≤ 1048576) :
    Calls Try.prog 26 #[.slice p ks.length c, .slice q vs.length d] w fun e w' => e = .returned (.map (some w.heap.size)) ∧ MB w' w.heap.size ks.length (bld ks vs ks.length).1 (bld ks vs ks.length).2 ∧ Below w.heap.size w w' := by
  have hmk := makeMap_hint
  go_enter Try.func26, Try.ntmps26
  go_wp2
  go_loopw [6] (fun i wr => ∃ k : Nat, k ≤ ks.length ∧ i = .int .i64 k ∧ MB wr w.heap.size k (bld ks vs k).1 (bld ks vs k).2 ∧ Below w.heap.size w wr) (fun i _ => ks.length - (intOf i).toNat)
  case atStart => exact ⟨0, Nat.zero_le _, rfl, MB.made w, (Below.refl _ _).alloc (Nat.le_refl _) _⟩
  case round =>
    obtain ⟨k, hk', rfl, hmb, hbel⟩ := hrel
    by_cases hlt : k < ks.length
    · obtain ⟨b, off, hp, hc⟩ := (hk.below hbel (Nat.le_refl _)) k hlt
      subst hp
      have hl := le_lens hlt
      by_cases hlv : k < vs.length
      · obtain ⟨b', off', hq, hcv⟩ := (hv.below hbel (Nat.le_refl _)) k hlv
        subst hq
        obtain ⟨w2, hrun, hmb2, hmt2⟩ := hmb.store (by unfold maxLen; omega) (l := ks[k]) (by unfold maxLen; omega) vs[k]
        have HM2 : Hid (MB w2 w.heap.size (k + 1) (bld ks vs (k + 1)).1 (bld ks vs (k + 1)).2) := by
          show MB _ _ _ _ _
          simp only [bld, getD_eq hlt, getD_eq hlv]
          exact hmb2
        have HB2 : Hid (Below w.heap.size w w2) := hbel.trans (hmt2.below (Nat.le_refl _))
        clear hmb hmb2 hmt2 hbel hk hv hl
        go_wp2
        go_roundw
        case rel => exact ⟨k + 1, by omega, by go_num, HM2.out, HB2.out⟩
        case measure => simp [intOf]; omega
      · obtain ⟨w2, hrun, hmb2, hmt2⟩ := hmb.store (by unfold maxLen; omega) (l := ks[k]) (by unfold maxLen; omega) true
        have HM2 : Hid (MB w2 w.heap.size (k + 1) (bld ks vs (k + 1)).1 (bld ks vs (k + 1)).2) := by
          show MB _ _ _ _ _
          have : vs.getD k true = true := by simp [List.getD, List.getElem?_eq_none (Nat.not_lt.1 hlv)]
          simp only [bld, getD_eq hlt, this]
          exact hmb2
        have HB2 : Hid (Below w.heap.size w w2) := hbel.trans (hmt2.below (Nat.le_refl _))
        clear hmb hmb2 hmt2 hbel hk hv hl
        go_wp2
        go_roundw
        case rel => exact ⟨k + 1, by omega, by go_num, HM2.out, HB2.out⟩
        case measure => simp [intOf]; omega
    · clear hk hv
      have ek : k = ks.length := by omega
      have HMB : Hid (MB wr w.heap.size k (bld ks vs k).1 (bld ks vs k).2) := hmb
      clear hmb
      go_wp2
      go_ret
      subst ek
      exact ⟨rfl, HMB.out, hbel⟩

end Go.Proofs.Qxb6603282a
