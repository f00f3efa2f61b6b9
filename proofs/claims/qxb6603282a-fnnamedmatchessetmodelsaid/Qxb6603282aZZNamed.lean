import Derived.Test.Qxb6603282aNamedC
namespace Go.Proofs.Qxb6603282a
open Go.RowKit

/-- The struct that ZZNamed lays. -/
def ovW (w : World) (F : Int) (s : Option Nat) : World := w.alloc (.cells #[.bool true, .int .i64 F, .map s, .slice none 0 0, .int .i64 0] 64)

theorem ov_below (w : World) (F : Int) (s : Option Nat) : Below w.heap.size w (ovW w F s) := (Below.refl _ _).alloc (Nat.le_refl _) _
theorem ov_size (w : World) (F : Int) (s : Option Nat) : (ovW w F s).heap.size = w.heap.size + 1 := by simp [ovW]
theorem ov_c1 (w : World) (F : Int) (s : Option Nat) : (ovW w F s).cell? ⟨w.heap.size, 1, none⟩ = some (.int .i64 F) := by simp [ovW]
theorem ov_c2 (w : World) (F : Int) (s : Option Nat) : (ovW w F s).cell? ⟨w.heap.size, 2, none⟩ = some (.map s) := by simp [ovW]
theorem ov_f2 (w : World) (F : Int) (s : Option Nat) : (ovW w F s).frozen? ⟨w.heap.size, 2, none⟩ = false := by simp [ovW]

/-- What comes back, and what holds of it. -/
def ZPost (R : Value → Bool → Option Nat → World → Prop) (e : Ending) (w' : World) : Prop := ∃ u' d s', e = .returned (.tuple #[u', .bool d, .map s']) ∧ R u' d s' w'
def NPost (vb : Nat) (R : Value → Bool → Option Nat → World → Prop) (e : Ending) (w' : World) : Prop := ∃ u' d s', e = .returned (.tuple #[u', .bool d]) ∧ w'.cell? ⟨vb, 2, none⟩ = some (.map s') ∧ R u' d s' w'

set_option maxHeartbeats 400000 in
/-- ZZNamed over whatever 'named' does. -/
theorem zzNamed_of {w : World} {F : Int} {s : Option Nat} {v u : Value} {R : Value → Bool → Option Nat → World → Prop}
    (hR : ∀ u' d s' w' j, R u' d s' w' → R u' d s' (w'.drewN j))
    (h : Calls Try.prog 39 #[.pointer (some ⟨w.heap.size, 0, none⟩), v, u] (ovW w F s) (NPost w.heap.size R)) :
    Calls Try.prog 27 #[.int .i64 F, .map s, v, u] w (ZPost R) := by
  have H : Hid (Calls Try.prog 39 #[.pointer (some ⟨w.heap.size, 0, none⟩), v, u] (ovW w F s) (NPost w.heap.size R)) := h
  have HR : Hid (∀ u' d s' w' j, R u' d s' w' → R u' d s' (w'.drewN j)) := hR
  clear h hR
  go_enter Try.func27, Try.ntmps27
  go_wp2_with fail
  refine (H.out).mono ?_
  rintro e w1 ⟨u', d, s', rfl, hc, hr⟩
  have HRR : Hid (R u' d s' w1) := hr
  clear hr
  go_wp2
  go_quiet (fail)
  go_wp2
  go_ret3
  exact ⟨u', d, s', rfl, HR.out _ _ _ _ _ HRR.out⟩

theorem MB.drewN {w : World} {b n : Nat} {f : List UInt8 → Option Bool} {s : Nat} (h : MB w b n f s) (j : Nat) : MB (w.drewN j) b n f s := h.block (by simp)
theorem ON.drewN {w : World} {base : Nat} {v : Value} {ls : List (List UInt8)} (h : ON w base v ls) (j : Nat) : ON (w.drewN j) base v ls := h.below (drewN_below _ w j) (Nat.le_refl _)
theorem grown_drewN {w w' : World} {row : Option Nat} (h : w.grownBy w' row) (j : Nat) : w.grownBy (w'.drewN j) row := ⟨h.os, h.tape, h.output, h.size, h.block⟩
theorem below_drewN' {B : Nat} {w w' : World} (h : Below B w w') (j : Nat) : Below B w (w'.drewN j) := h.trans (drewN_below _ _ _)

/-- What was there, and then a step that turns one block. -/
theorem grown_after {w w1 w' : World} {row : Option Nat} (h : Below w.heap.size w w1) (hg : w1.grownBy w' row) : w.grownBy w' row :=
  ⟨hg.os.trans h.os, hg.tape.trans h.tape, hg.output.trans h.output, Nat.le_trans h.size hg.size, fun k hk hne => (hg.block k (by have := h.size; omega) hne).trans (h.block k hk)⟩

theorem zz_seen_hit {w : World} {sb n s : Nat} {F : Int} {f : List UInt8 → Option Bool} {nm : List UInt8} {v u : Value}
    (hm : MB w sb n f s) (hv : HB w v nm) (hl : nm.length ≤ maxLen) (hf : (f nm).getD false = true) :
    Calls Try.prog 27 #[.int .i64 F, .map (some sb), v, u] w (ZPost fun u' d s' w' => u' = u ∧ d = true ∧ s' = some sb ∧ Below w.heap.size w w') := by
  have hb := ov_below w F (some sb)
  refine zzNamed_of (fun u' d s' w' j ⟨a, b, c, e⟩ => ⟨a, b, c, below_drewN' e j⟩) ?_
  refine (named_seen_hit (ov_c2 w F (some sb)) (hm.below hb (Nat.le_refl _)) (hv.below hb (Nat.le_refl _)) hl hf).mono ?_
  rintro e w' ⟨rfl, j, rfl⟩
  exact ⟨u, true, some sb, rfl, by simpa using ov_c2 w F (some sb), rfl, rfl, rfl, below_drewN' hb j⟩

theorem zz_seen_miss {w : World} {sb n s : Nat} {F : Int} {f : List UInt8 → Option Bool} {nm : List UInt8} {v u : Value}
    (hm : MB w sb n f s) (hn : n < maxLen) (hv : HB w v nm) (hl : nm.length ≤ maxLen) (hf : (f nm).getD false = false) :
    Calls Try.prog 27 #[.int .i64 F, .map (some sb), v, u] w (ZPost fun u' d s' w' => u' = u ∧ d = false ∧ s' = some sb ∧ MB w' sb (n + 1) (upd f nm true) (cnt f nm s) ∧ w.grownBy w' (some sb)) := by
  have hb := ov_below w F (some sb)
  have hlt := hm.lt
  refine zzNamed_of (fun u' d s' w' j ⟨a, b, c, e, g⟩ => ⟨a, b, c, e.drewN j, grown_drewN g j⟩) ?_
  refine (named_seen_miss (ov_c2 w F (some sb)) (hm.below hb (Nat.le_refl _)) hn (hv.below hb (Nat.le_refl _)) hl hf).mono ?_
  rintro e w' ⟨rfl, h1, h2⟩
  refine ⟨u, false, some sb, rfl, ?_, rfl, rfl, rfl, h1, grown_after hb h2.1⟩
  rw [World.cell?_of_block (h2.other (k := w.heap.size) (by rw [ov_size]; omega) (by omega))]
  exact ov_c2 w F (some sb)

theorem zz_list_hit {w : World} {F : Nat} {p : Option Addr} {c : Nat} {ls : List (List UInt8)} {nm : List UInt8} {v : Value}
    (hn : HN w p ls) (hc : ls.length ≤ c) (hm : c ≤ maxLen) (hF : F ≤ ls.length) (hv : HB w v nm) (hmem : nm ∈ ls.drop F) :
    Calls Try.prog 27 #[.int .i64 F, .map none, v, .slice p ls.length c] w (ZPost fun u' d s' w' => u' = .slice p ls.length c ∧ d = true ∧ s' = none ∧ Below w.heap.size w w') := by
  have hb := ov_below w F none
  refine zzNamed_of (fun u' d s' w' j ⟨a, b, c, e⟩ => ⟨a, b, c, below_drewN' e j⟩) ?_
  refine (named_list_hit (ov_c1 w F none) (ov_c2 w F none) (hn.below hb (Nat.le_refl _)) hc hm hF (hv.below hb (Nat.le_refl _)) hmem).mono ?_
  rintro e w' ⟨rfl, rfl⟩
  exact ⟨_, true, none, rfl, ov_c2 w F none, rfl, rfl, rfl, hb⟩

theorem zz_list_add {w : World} {F base : Nat} {u : Value} {ls : List (List UInt8)} {nm : List UInt8} {v : Value}
    (hon : ON w base u ls) (hbase : base ≤ w.heap.size) (hsm : ls.length ≤ 2000000) (hF : F ≤ ls.length) (hv : w.ownsRow base 5 1 v nm.length (bv nm)) (hmem : nm ∉ ls.drop F) (hsh : ls.length - F < 16) :
    Calls Try.prog 27 #[.int .i64 F, .map none, v, u] w (ZPost fun u' d s' w' => d = false ∧ s' = none ∧ ON w' base u' (ls ++ [nm]) ∧ w.grownBy w' u.ownBlock) := by
  have hb := ov_below w F none
  have hlt : ∀ k, u.ownBlock = some k → k < w.heap.size := by
    obtain ⟨vs, h1, _⟩ := hon
    exact fun k hk => (h1.lt k hk).2
  refine zzNamed_of (fun u' d s' w' j ⟨a, b, c, e⟩ => ⟨a, b, c.drewN j, grown_drewN e j⟩) ?_
  refine (named_list_add (ov_c1 w F none) (ov_c2 w F none) (hon.below hb (Nat.le_refl _)) (by rw [ov_size]; omega) hsm hF (own_below hv hb (Nat.le_refl _)) hmem hsh).mono ?_
  rintro e w' ⟨u', rfl, h1, o, h2⟩
  have hg : (ovW w F none).grownBy w' u.ownBlock := grown_after ((Below.refl _ _).alloc (Nat.le_refl _) o) h2
  refine ⟨u', false, none, rfl, ?_, rfl, rfl, h1, grown_after hb hg⟩
  rw [World.cell?_of_block (hg.block w.heap.size (by rw [ov_size]; omega) (fun e => by have := hlt _ e.symm; omega))]
  exact ov_c2 w F none

theorem zz_list_full {w : World} {F : Nat} {p : Option Addr} {c : Nat} {ls : List (List UInt8)} {nm : List UInt8} {v : Value}
    (hn : HN w p ls) (hc : ls.length ≤ c) (hsm : ls.length ≤ 2000000) (hsz : ∀ i (h : i < ls.length), ls[i].length ≤ 2000000) (hF : F ≤ ls.length) (hv : HB w v nm) (hnl : nm.length ≤ 2000000) (hmem : nm ∉ ls.drop F) (hsh : 16 ≤ ls.length - F) :
    Calls Try.prog 27 #[.int .i64 F, .map none, v, .slice p ls.length c] w (ZPost fun u' d s' w' => u' = .slice p ls.length c ∧ d = false ∧
      ∃ sb, s' = some sb ∧ w.heap.size ≤ sb ∧ MB w' sb (ls.length + 1) (upd (setF (ls.drop F)).1 nm true) ((setF (ls.drop F)).2 + 1) ∧ Below w.heap.size w w') := by
  have hb := ov_below w F none
  refine zzNamed_of (fun u' d s' w' j ⟨a, b, sb, c, l, m, e⟩ => ⟨a, b, sb, c, l, m.drewN j, below_drewN' e j⟩) ?_
  refine (named_list_full hb (Nat.le_refl _) (by rw [ov_size]; omega) (ov_c1 w F none) (ov_c2 w F none) (ov_f2 w F none) hn hc hsm hsz hF hv hnl hmem hsh).mono ?_
  rintro e w' ⟨rfl, h1, h2, h3⟩
  exact ⟨_, false, _, rfl, h2, rfl, rfl, _, rfl, by rw [ov_size]; omega, h1, hb.trans h3⟩

end Go.Proofs.Qxb6603282a
