import Derived.Test.Qxb6603282aNamedB
namespace Go.Proofs.Qxb6603282a
open Go.RowKit

/-- The set of the strings G: what it holds, how many. -/
def setF (G : List (List UInt8)) : (List UInt8 → Option Bool) × Nat := G.foldl (fun m l => (upd m.1 l true, cnt m.1 l m.2)) (fun _ => none, 0)

theorem setF_nil : setF [] = (fun _ => none, 0) := rfl
theorem setF_snoc (G : List (List UInt8)) (l : List UInt8) : setF (G ++ [l]) = (upd (setF G).1 l true, cnt (setF G).1 l (setF G).2) := by simp [setF, List.foldl_append]

theorem setF_get (G : List (List UInt8)) (l : List UInt8) : (setF G).1 l = if l ∈ G then some true else none := by
  rw [← List.reverse_reverse G]
  generalize G.reverse = R
  induction R with
  | nil => simp [setF]
  | cons x R ih =>
    rw [List.reverse_cons, setF_snoc]
    by_cases e : l = x
    · subst e
      simp [upd]
    · simp only [upd, if_neg e, ih]
      simp [e]

theorem setF_take_succ {G : List (List UInt8)} {k : Nat} (h : k < G.length) : setF (G.take (k + 1)) = (upd (setF (G.take k)).1 G[k] true, cnt (setF (G.take k)).1 G[k] (setF (G.take k)).2) := by
  rw [List.take_succ_eq_append_getElem h, setF_snoc]

/-- The world in which the map is made. -/
def fullW (w : World) (vb : Nat) : World := (w.setCell ⟨vb, 2, none⟩ (.map (some w.heap.size))).alloc (.map #[] 0)

theorem fullW_mb (w : World) (vb : Nat) : MB (fullW w vb) w.heap.size 0 (setF []).1 (setF []).2 := by
  have := MB.made (w.setCell ⟨vb, 2, none⟩ (.map (some w.heap.size)))
  simpa [fullW, setF_nil] using this

theorem fullW_below {w : World} {vb : Nat} (h : vb < w.heap.size) : Below vb w (fullW w vb) :=
  ((Below.refl vb w).setCell (Nat.le_refl _) _).alloc (by simp; omega) _

theorem fullW_cell {w : World} {vb : Nat} (h : vb < w.heap.size) (hc : w.cell? ⟨vb, 2, none⟩ = some (.map none)) : (fullW w vb).cell? ⟨vb, 2, none⟩ = some (.map (some w.heap.size)) := by
  unfold fullW
  rw [World.cell?_alloc_lt _ _ _ (by simpa using h)]
  rw [World.cell?_setCell_same _ _ _ hc]

theorem fullW_size (w : World) (vb : Nat) : (fullW w vb).heap.size = w.heap.size + 1 := by simp [fullW]

set_option maxHeartbeats 1000000 in
/-- named, the names in the list, the name not there, the list long: the names go into a map. -/
theorem named_list_full {w0 w : World} {vb F : Nat} {p : Option Addr} {c : Nat} {ls : List (List UInt8)} {nm : List UInt8} {v : Value}
    (h0 : Below vb w0 w) (hvb : w0.heap.size ≤ vb) (hvw : vb < w.heap.size)
    (c1 : w.cell? ⟨vb, 1, none⟩ = some (.int .i64 F)) (c2 : w.cell? ⟨vb, 2, none⟩ = some (.map none)) (f2 : w.frozen? ⟨vb, 2, none⟩ = false)
    (hn : HN w0 p ls) (hc : ls.length ≤ c) (hsm : ls.length ≤ 2000000) (hsz : ∀ i (h : i < ls.length), ls[i].length ≤ 2000000) (hF : F ≤ ls.length) (hv : HB w0 v nm) (hnl : nm.length ≤ 2000000) (hmem : nm ∉ ls.drop F) (hsh : 16 ≤ ls.length - F) :
    Calls Try.prog 39 #[.pointer (some ⟨vb, 0, none⟩), v, .slice p ls.length c] w fun e w' => e = .returned (.tuple #[.slice p ls.length c, .bool false]) ∧
      MB w' w.heap.size (ls.length + 1) (upd (setF (ls.drop F)).1 nm true) ((setF (ls.drop F)).2 + 1) ∧ w'.cell? ⟨vb, 2, none⟩ = some (.map (some w.heap.size)) ∧ Below vb w w' := by
  have hq := eqNil41
  obtain ⟨q, d, hsl, hg⟩ := slice_from hn hc hF
  obtain ⟨G, HG⟩ : ∃ G, Hid (G = ls.drop F) := ⟨_, rfl⟩
  have HL : Hid (G.length = ls.length - F) := by show G.length = _; rw [HG.out]; simp
  have HZ : Hid (∀ i (h : i < G.length), G[i].length ≤ 2000000) := by
    intro i hi
    have hi2 := hi
    rw [HL.out] at hi2
    have : G[i] = ls[F + i] := by simp [HG.out]
    rw [this]
    exact hsz _ _
  rw [← HG.out] at hg hmem ⊢
  have HM : Hid (nm ∉ G) := hmem
  have hgw : HN w q G := hg.below h0 hvb
  have hvw' : HB w v nm := hv.below h0 hvb
  have HG0 : Hid (HN w0 q G) := hg
  have HV0 : Hid (HB w0 v nm) := hv
  have H0 : Hid (Below vb w0 w) := h0
  clear hn hmem hsz hg hv h0
  have hmk := makeMap_hint
  have hca : ∀ o, (w.alloc o).cell? ⟨vb, 2, none⟩ = some (.map none) := fun o => by rw [World.cell?_alloc_lt _ _ _ hvw]; exact c2
  have hfa : ∀ o, (w.alloc o).frozen? ⟨vb, 2, none⟩ = false := fun o => by rw [World.frozen?_alloc_old _ _ _ (by simp; omega)]; exact f2
  go_enter Try.func39, Try.ntmps39
  go_wp2
  go_loop [26] (fun i => ∃ k : Nat, k ≤ ls.length - F ∧ i = .int .i64 k) (fun i => (ls.length - F) - (intOf i).toNat)
  case atStart => exact ⟨0, Nat.zero_le _, rfl⟩
  case round =>
    obtain ⟨k, hk, rfl⟩ := hrel
    by_cases hlt : k < ls.length - F
    · have hkG : k < G.length := by rw [HL.out]; exact hlt
      obtain ⟨b, off, hp, u, hcu, hu⟩ := hgw k hkG
      subst hp
      have hne := not_mem_at hkG HM.out
      have HC : Hid (Calls Try.prog 46 #[u, v] w fun e w' => e = .returned (.bool false) ∧ w' = w) := by
        have := bytes_Equal hu hvw'
        rw [hne] at this
        exact this
      clear hgw hu hvw' hne hca hfa c1 c2 f2
      go_wp2_with (go_at_call 46; refine HC.out.mono ?_; rintro e w1 ⟨rfl, rfl⟩)
      go_round
      case rel => exact ⟨k + 1, by omega, by go_num⟩
      case measure => simp [intOf]; omega
    · clear hgw hvw'
      have hge : ¬ (((ls.length - F : Nat) : Int) < 16) := by omega
      go_wp2
      go_loopw [48] (fun i wr => ∃ k : Nat, k ≤ ls.length - F ∧ i = .int .i64 k ∧ MB wr w.heap.size k (setF (G.take k)).1 (setF (G.take k)).2 ∧ Below w.heap.size (fullW w vb) wr) (fun i _ => (ls.length - F) - (intOf i).toNat)
      case atStart => exact ⟨0, Nat.zero_le _, rfl, fullW_mb w vb, Below.refl _ _⟩
      case round =>
        obtain ⟨j, hj, rfl, hmb, hbel⟩ := hrel
        have hb1 : Below vb w wr := (fullW_below hvw).trans (hbel.mono (by omega))
        have hb0 : Below vb w0 wr := H0.out.trans hb1
        have hc2 : wr.cell? ⟨vb, 2, none⟩ = some (.map (some w.heap.size)) := (hbel.cell (p := ⟨vb, 2, none⟩) hvw).trans (fullW_cell hvw c2)
        have HB1 : Hid (Below vb w wr) := hb1
        have HMB : Hid (MB wr w.heap.size j (setF (G.take j)).1 (setF (G.take j)).2) := hmb
        have HBE : Hid (Below w.heap.size (fullW w vb) wr) := hbel
        by_cases hltj : j < ls.length - F
        · have hjG : j < G.length := by rw [HL.out]; exact hltj
          obtain ⟨b, off, hp, u, hcu, hu⟩ := (HG0.out.below hb0 hvb) j hjG
          subst hp
          have hcv : (convert 28 9 u).run Try.prog wr.drew = .ok (.string (str G[j])) wr.drew := (hu.drewN 1).convert
          obtain ⟨w2, hrun, hmb2, hmt2⟩ := (hmb.block (w' := wr.drew) rfl).store (by unfold maxLen; omega) (l := G[j]) (by have := HZ.out j hjG; unfold maxLen; omega) true
          have HM2 : Hid (MB w2 w.heap.size (j + 1) (setF (G.take (j + 1))).1 (setF (G.take (j + 1))).2) := by show MB _ _ _ _ _; rw [setF_take_succ hjG]; exact hmb2
          have HT2 : Hid (Below w.heap.size (fullW w vb) w2) := hbel.trans ((Below.refl _ wr).drew.trans (hmt2.below (Nat.le_refl _)))
          clear hmb hbel hb1 hb0 hu hmb2 hmt2 hca hfa c1 c2 f2
          go_wp2
          go_region
          go_wp2
          go_roundw
          case rel => exact ⟨j + 1, by omega, by go_num, HM2.out, HT2.out⟩
          case measure => simp [intOf]; omega
        · have ej : G.take j = G := List.take_of_length_le (by rw [HL.out]; omega)
          rw [ej] at hmb
          have hnone : (setF G).1 nm = none := by rw [setF_get, if_neg HM.out]
          have hnm : nm.length ≤ maxLen := by unfold maxLen; omega
          have hlk : ∀ i, (Instr.lookup 41 (.map (some w.heap.size)) (.string (str nm)) false).run Try.prog (wr.drewN i) = .ok (.bool false) (wr.drewN i) := by
            intro i
            have := (hmb.block (w' := wr.drewN i) (by simp)).look hnm
            rw [hnone] at this
            exact this
          have hcv : ∀ i, (convert 28 9 v).run Try.prog (wr.drewN i) = .ok (.string (str nm)) (wr.drewN i) := fun i => ((HV0.out.below hb0 hvb).drewN i).convert
          have hst : ∀ i, ∃ w', (Instr.mapUpdate 41 (.map (some w.heap.size)) (.string (str nm)) (.bool true)).run Try.prog (wr.drewN i) = .ok () w' ∧ MB w' w.heap.size (j + 1) (upd (setF G).1 nm true) (cnt (setF G).1 nm (setF G).2) ∧ MT (wr.drewN i) w' w.heap.size :=
            fun i => (hmb.block (w' := wr.drewN i) (by simp)).store (by unfold maxLen; omega) hnm true
          have HST := hst
          clear hmb hbel hb1 hb0 hca hfa c1 c2 f2 hst
          have HS : Hid (∀ i, ∃ w', (Instr.mapUpdate 41 (.map (some w.heap.size)) (.string (str nm)) (.bool true)).run Try.prog (wr.drewN i) = .ok () w' ∧ MB w' w.heap.size (j + 1) (upd (setF G).1 nm true) (cnt (setF G).1 nm (setF G).2) ∧ MT (wr.drewN i) w' w.heap.size) := HST
          have HNO : Hid ((setF G).1 nm = none) := hnone
          have HEJ : Hid (G.take j = G) := ej
          clear HST hnone ej
          go_wp2
          go_quiet (fail)
          obtain ⟨w2, hrun, hmb2, hmt2⟩ := HS.out (nq + 1)
          have HM2 : Hid (MB w2 w.heap.size (j + 1) (upd (setF G).1 nm true) ((setF G).2 + 1)) := by
            have hcnt : cnt (setF G).1 nm (setF G).2 = (setF G).2 + 1 := by simp [cnt, HNO.out]
            rw [hcnt] at hmb2
            exact hmb2
          have HT2 : Hid (MT wr w2 w.heap.size) := hmt2.ofDrewN
          clear hmb2 hmt2
          go_wp2
          go_region
          go_wp2
          go_ret2
          refine ⟨rfl, HM2.out.mono (by omega), ?_, HB1.out.trans (HT2.out.below (by omega))⟩
          rw [World.cell?_of_block (HT2.out.other (k := vb) (by have := HT2.out.lt; omega) (by omega))]
          exact hc2

end Go.Proofs.Qxb6603282a
