import Derived.Test.Qxb6603282aNamedA
namespace Go.Proofs.Qxb6603282a
open Go.RowKit

theorem addr_add (b off i : Nat) : (⟨b, off, none⟩ : Addr).add i = ⟨b, off + i, none⟩ := by unfold Addr.add; split <;> simp_all

/-- The call's own slice, as a slice that is read. -/
theorem ON.hn {w : World} {base : Nat} {v : Value} {ls : List (List UInt8)} (h : ON w base v ls) : ∃ p c, v = .slice p ls.length c ∧ HN w p ls ∧ ls.length ≤ c ∧ c ≤ maxLen ∧ (p = none → c = 0) := by
  obtain ⟨vs, ho, hu⟩ := h
  have hcell := fun g => World.ownsRow.cells ho (g := g)
  obtain ⟨_, h2⟩ := ho
  rcases h2 with ⟨rfl, h0⟩ | ⟨g, cap, cur, rfl, _, hh, hn, hm, _, _⟩
  · have : ls = [] := List.eq_nil_of_length_eq_zero h0
    subst this
    exact ⟨none, 0, rfl, fun i hi => by simp at hi, Nat.le_refl _, Nat.zero_le _, fun _ => rfl⟩
  · refine ⟨some ⟨g, 0, none⟩, cap, rfl, fun i hi => ?_, hn, hm, fun h => by cases h⟩
    obtain ⟨u, hvi, hown⟩ := hu i hi
    refine ⟨g, 0, rfl, u, ?_, HB.ofOwn hown⟩
    have := hcell g rfl i u hvi
    rwa [addr_add] at this

/-- 'names[first:]'. -/
theorem slice_from {w : World} {p : Option Addr} {c F : Nat} {ls : List (List UInt8)} (h : HN w p ls) (hc : ls.length ≤ c) (hF : F ≤ ls.length) :
    ∃ q d, (∀ W, (Instr.slice 36 (.slice p ls.length c) (some (.int .i64 F)) none none).run Try.prog W = .ok (.slice q (ls.length - F) d) W) ∧ HN w q (ls.drop F) := by
  have hs : (Try.prog.info? 28).map (·.size) = some 1 := by kernel_rfl
  obtain ⟨i0, hi, hz⟩ := Option.map_eq_some_iff.1 hs
  refine ⟨if c = F then p else p.map (·.add (F * 1)), c - F, fun W => ?_, fun i hi => ?_⟩
  · have hF' : (0 : Int) ≤ (F : Int) ∧ (F : Int) ≤ ls.length := by omega
    simp [Instr.slice, run_underlying Try.underlying36, Instr.sliceBounds, Instr.sliceBound, asIntOf, hF', sizeOf, typeInfo, hi, hz]
    omega
  · have hi' : F + i < ls.length := by simp at hi; omega
    obtain ⟨b, off, rfl, v, hcv, hv⟩ := h (F + i) hi'
    rw [if_neg (by omega)]
    refine ⟨b, off + F, by simp [addr_add], v, by rw [← hcv]; simp [Nat.add_assoc], by simpa using hv⟩

theorem not_mem_take_succ {G : List (List UInt8)} {nm : List UInt8} {k : Nat} (hk : k < G.length) (h : nm ∉ G.take k) (h2 : (G[k] == nm) = false) : nm ∉ G.take (k + 1) := by
  rw [List.take_succ_eq_append_getElem hk]
  intro hm
  rcases List.mem_append.1 hm with hm | hm
  · exact h hm
  · simp at hm
    subst hm
    simp at h2

theorem not_mem_at {G : List (List UInt8)} {nm : List UInt8} {k : Nat} (hk : k < G.length) (h : nm ∉ G) : (G[k] == nm) = false := by
  rw [beq_eq_false_iff_ne]
  rintro rfl
  exact h (List.getElem_mem hk)

set_option maxHeartbeats 400000 in
/-- named, the names in the list, the name there. -/
theorem named_list_hit {w : World} {vb F : Nat} {p : Option Addr} {c : Nat} {ls : List (List UInt8)} {nm : List UInt8} {v : Value}
    (c1 : w.cell? ⟨vb, 1, none⟩ = some (.int .i64 F)) (c2 : w.cell? ⟨vb, 2, none⟩ = some (.map none))
    (hn : HN w p ls) (hc : ls.length ≤ c) (hm : c ≤ maxLen) (hF : F ≤ ls.length) (hv : HB w v nm) (hmem : nm ∈ ls.drop F) :
    Calls Try.prog 39 #[.pointer (some ⟨vb, 0, none⟩), v, .slice p ls.length c] w fun e w' => e = .returned (.tuple #[.slice p ls.length c, .bool true]) ∧ w' = w := by
  have hq := eqNil41
  obtain ⟨q, d, hsl, hg⟩ := slice_from hn hc hF
  have hml : ls.length - F ≤ 9223372036854775807 := by unfold maxLen at hm; omega
  obtain ⟨G, HG⟩ : ∃ G, Hid (G = ls.drop F) := ⟨_, rfl⟩
  have HL : Hid (G.length = ls.length - F) := by show G.length = _; rw [HG.out]; simp
  rw [← HG.out] at hg hmem
  have HM : Hid (nm ∈ G) := hmem
  clear hn hmem
  go_enter Try.func39, Try.ntmps39
  go_wp2
  go_loop [26] (fun i => ∃ k : Nat, k ≤ ls.length - F ∧ i = .int .i64 k ∧ nm ∉ G.take k) (fun i => (ls.length - F) - (intOf i).toNat)
  case atStart => exact ⟨0, Nat.zero_le _, rfl, by simp⟩
  case round =>
    obtain ⟨k, hk, rfl, hne⟩ := hrel
    have HN' : Hid (nm ∉ G.take k) := hne
    clear hne
    by_cases hlt : k < ls.length - F
    · have hkG : k < G.length := by rw [HL.out]; exact hlt
      obtain ⟨b, off, hp, u, hcu, hu⟩ := hg k hkG
      subst hp
      have HC : Hid (Calls Try.prog 46 #[u, v] w fun e w' => e = .returned (.bool (G[k] == nm)) ∧ w' = w) := bytes_Equal hu hv
      clear hg hu hv
      go_wp2_with (go_at_call 46; refine HC.out.mono ?_; rintro e w1 ⟨rfl, rfl⟩)
      · go_ret2
        exact ⟨rfl, rfl⟩
      · have h2 : (G[k] == nm) = false := by assumption
        have h3 := not_mem_take_succ hkG HN'.out h2
        go_round
        case rel => exact ⟨k + 1, by omega, by go_num, h3⟩
        case measure => simp [intOf]; omega
    · exfalso
      have := HN'.out
      rw [List.take_of_length_le (by rw [HL.out]; omega)] at this
      exact this HM.out

theorem append_on {w w' : World} {base : Nat} {v v' nv : Value} {ls : List (List UInt8)} {nm : List UInt8} {vs : List Value} {o : Obj}
    (hown : w.ownsRow base 28 1 v ls.length vs) (hu : ∀ i (h : i < ls.length), ∃ u, vs[i]? = some u ∧ w.ownsRow base 5 1 u ls[i].length (bv ls[i])) (hnv : w.ownsRow base 5 1 nv nm.length (bv nm))
    (h1 : w'.ownsRow base 28 1 v' (ls.length + 1) (vs ++ [nv])) (hg : (w.alloc o).grownBy w' v.ownBlock) : ON w' base v' (ls ++ [nm]) := by
  have key : ∀ {u : Value} {n : Nat} {xs : List Value}, w.ownsRow base 5 1 u n xs → w'.ownsRow base 5 1 u n xs := by
    intro u n xs h
    refine (h.alloc o).kept hg ?_
    cases hv : u.ownBlock with
    | none => exact .inl rfl
    | some k =>
      refine .inr fun e => ?_
      obtain ⟨_, h2⟩ := h
      obtain ⟨_, h3⟩ := hown
      rcases h2 with ⟨rfl, _⟩ | ⟨g, cap, cur, rfl, _, hh, _⟩
      · simp [Value.ownBlock] at hv
      · rcases h3 with ⟨rfl, _⟩ | ⟨g', cap', cur', rfl, _, hh', _⟩
        · simp [Value.ownBlock] at e
        · simp [Value.ownBlock] at e hv
          subst hv
          subst e
          rw [hh] at hh'
          simp at hh'
  have hl : vs.length = ls.length := by have := hown.1; omega
  refine ⟨vs ++ [nv], by simpa using h1, fun i hi => ?_⟩
  by_cases hi' : i < ls.length
  · obtain ⟨u, hvu, hou⟩ := hu i hi'
    refine ⟨u, by rw [List.getElem?_append_left (by omega)]; exact hvu, ?_⟩
    rw [List.getElem_append_left hi']
    exact key hou
  · have : i = ls.length := by simp at hi; omega
    subst this
    refine ⟨nv, by rw [List.getElem?_append_right (by omega)]; simp [hl], ?_⟩
    simpa using key hnv

theorem append_below {w w' : World} {base B : Nat} {v : Value} {n : Nat} {vs : List Value} {o : Obj} (hown : w.ownsRow base 28 1 v n vs) (hB : B ≤ base) (hs : B ≤ w.heap.size)
    (hg : (w.alloc o).grownBy w' v.ownBlock) : Below B w w' :=
  ((Below.refl B w).alloc hs o).grown hg (by simp; omega) (fun k hk => by have := hown.lt k hk; omega)

set_option maxHeartbeats 400000 in
/-- named, the names in the list, the name not there, the list short. -/
theorem named_list_add {w : World} {vb F base : Nat} {u : Value} {ls : List (List UInt8)} {nm : List UInt8} {v : Value}
    (c1 : w.cell? ⟨vb, 1, none⟩ = some (.int .i64 F)) (c2 : w.cell? ⟨vb, 2, none⟩ = some (.map none))
    (hon : ON w base u ls) (hbase : base ≤ w.heap.size) (hsm : ls.length ≤ 2000000) (hF : F ≤ ls.length) (hv : w.ownsRow base 5 1 v nm.length (bv nm)) (hmem : nm ∉ ls.drop F) (hsh : ls.length - F < 16) :
    Calls Try.prog 39 #[.pointer (some ⟨vb, 0, none⟩), v, u] w fun e w' => ∃ u', e = .returned (.tuple #[u', .bool false]) ∧ ON w' base u' (ls ++ [nm]) ∧ ∃ o, (w.alloc o).grownBy w' u.ownBlock := by
  have hq := eqNil41
  obtain ⟨p, c, hu, hn, hc, hm, _⟩ := hon.hn
  obtain ⟨vs, hown, hall⟩ := hon
  obtain ⟨q, d, hsl, hg⟩ := slice_from hn hc hF
  have hml : ls.length - F ≤ 9223372036854775807 := by unfold maxLen at hm; omega
  obtain ⟨G, HG⟩ : ∃ G, Hid (G = ls.drop F) := ⟨_, rfl⟩
  have HL : Hid (G.length = ls.length - F) := by show G.length = _; rw [HG.out]; simp
  rw [← HG.out] at hg hmem
  have HM : Hid (nm ∉ G) := hmem
  have hvb := HB.ofOwn hv
  obtain ⟨pv, cv, hvs⟩ := own_shape hv
  subst hu
  subst hvs
  have HA : Hid (∀ w' v' o, w'.ownsRow base 28 1 v' (ls.length + 1) (vs ++ [Value.slice pv nm.length cv]) → (w.alloc o).grownBy w' (Value.slice p ls.length c).ownBlock → ON w' base v' (ls ++ [nm])) := fun w' v' o h1 h2 => append_on hown hall hv h1 h2
  have HO : Hid (w.ownsRow base 28 1 (.slice p ls.length c) ls.length vs) := hown
  clear hn hmem hall hv hown
  obtain ⟨i0, hi, hz0, hz1, hz2⟩ := info_parts info28
  go_enter Try.func39, Try.ntmps39
  go_wp2
  go_loop [26] (fun i => ∃ k : Nat, k ≤ ls.length - F ∧ i = .int .i64 k) (fun i => (ls.length - F) - (intOf i).toNat)
  case atStart => exact ⟨0, Nat.zero_le _, rfl⟩
  case round =>
    obtain ⟨k, hk, rfl⟩ := hrel
    by_cases hlt : k < ls.length - F
    · have hkG : k < G.length := by rw [HL.out]; exact hlt
      obtain ⟨b, off, hp, u, hcu, hu⟩ := hg k hkG
      subst hp
      have hne := not_mem_at hkG HM.out
      have HC : Hid (Calls Try.prog 46 #[u, .slice pv nm.length cv] w fun e w' => e = .returned (.bool false) ∧ w' = w) := by
        have := bytes_Equal hu hvb
        rw [hne] at this
        exact this
      clear hg hu hvb hne
      go_wp2_with (go_at_call 46; refine HC.out.mono ?_; rintro e w1 ⟨rfl, rfl⟩)
      go_round
      case rel => exact ⟨k + 1, by omega, by go_num⟩
      case measure => simp [intOf]; omega
    · clear hg hvb
      go_wp2_with (at_builtin; refine wpList_append_own _ rfl _ _ 36 rfl base 28 i0 (.slice none 0 0) 1 24 Try.underlying36 hi hz0 hz1 hz2 rfl (by decide) _ _ _ rfl (HO.out.alloc _) ⟨w.heap.size, 0, none⟩ 1 1 [.slice pv nm.length cv] rfl rfl ?c1 ?c2 ?c3 ?c4 ?c5 ?_)
      case c2 => rfl
      case c3 => unfold maxLen; omega
      case c4 => omega
      case c5 => omega
      intro v' w1 hown' hgrow _
      have R := HA.out _ _ _ hown' hgrow
      have HG' : Hid ((w.alloc _).grownBy w1 (Value.slice p ls.length c).ownBlock) := hgrow
      clear hown' hgrow
      go_wp2
      go_ret2
      exact ⟨_, rfl, R, _, HG'.out⟩

end Go.Proofs.Qxb6603282a
