import Derived.Test.Qxb6603282aZZNamed
namespace Go.Proofs.Qxb6603282a
open Go.RowKit

/-- The different names of a sequence, in their order. -/
def uniqStep (acc : List (List UInt8)) (l : List UInt8) : List (List UInt8) := if l ∈ acc then acc else acc ++ [l]
def uniq (S : List (List UInt8)) : List (List UInt8) := S.foldl uniqStep []

theorem uniq_snoc (S : List (List UInt8)) (l : List UInt8) : uniq (S ++ [l]) = uniqStep (uniq S) l := by simp [uniq, List.foldl_append]
theorem uniq_take_succ {S : List (List UInt8)} {k : Nat} (h : k < S.length) : uniq (S.take (k + 1)) = uniqStep (uniq (S.take k)) S[k] := by
  rw [List.take_succ_eq_append_getElem h, uniq_snoc]

theorem uniqStep_hit {acc : List (List UInt8)} {l : List UInt8} (h : l ∈ acc) : uniqStep acc l = acc := if_pos h
theorem uniqStep_miss {acc : List (List UInt8)} {l : List UInt8} (h : l ∉ acc) : uniqStep acc l = acc ++ [l] := if_neg h

theorem fold_prefix (T : List (List UInt8)) : ∀ acc, ∃ t, T.foldl uniqStep acc = acc ++ t := by
  induction T with
  | nil => exact fun acc => ⟨[], by simp⟩
  | cons x T ih =>
    intro acc
    rw [List.foldl_cons]
    obtain ⟨t, ht⟩ := ih (uniqStep acc x)
    rw [ht]
    unfold uniqStep
    split
    · exact ⟨t, rfl⟩
    · exact ⟨x :: t, by simp⟩

theorem uniq_prefix (S : List (List UInt8)) (k : Nat) : ∃ t, uniq S = uniq (S.take k) ++ t := by
  obtain ⟨t, ht⟩ := fold_prefix (S.drop k) (uniq (S.take k))
  refine ⟨t, ?_⟩
  rw [← ht]
  conv => lhs; rw [← List.take_append_drop k S]
  simp only [uniq, List.foldl_append]

theorem uniq_length_le (S : List (List UInt8)) : (uniq S).length ≤ S.length := by
  rw [← List.reverse_reverse S]
  generalize S.reverse = R
  induction R with
  | nil => simp [uniq]
  | cons x R ih =>
    rw [List.reverse_cons, uniq_snoc]
    unfold uniqStep
    split
    · simp at ih ⊢; omega
    · simp at ih ⊢; omega

theorem uniq_mem (S : List (List UInt8)) (l : List UInt8) : l ∈ uniq S → l ∈ S := by
  rw [← List.reverse_reverse S]
  generalize S.reverse = R
  induction R with
  | nil => simp [uniq]
  | cons x R ih =>
    rw [List.reverse_cons, uniq_snoc]
    unfold uniqStep
    split
    · intro h; exact List.mem_append_left _ (ih h)
    · intro h
      rcases List.mem_append.1 h with h | h
      · exact List.mem_append_left _ (ih h)
      · exact List.mem_append_right _ h

/-- A list of names as a set. -/
def inF (K : List (List UInt8)) : List UInt8 → Option Bool := fun l => if l ∈ K then some true else none

theorem inF_getD (K : List (List UInt8)) (l : List UInt8) : (inF K l).getD false = decide (l ∈ K) := by
  unfold inF
  by_cases h : l ∈ K <;> simp [h]

theorem upd_inF (K : List (List UInt8)) (l : List UInt8) : upd (inF K) l true = inF (K ++ [l]) := by
  funext x
  unfold upd inF
  by_cases e : x = l
  · simp [e]
  · simp [e]

theorem setF_inF (K : List (List UInt8)) : (setF K).1 = inF K := by
  funext x
  rw [setF_get]
  rfl

theorem inF_nil : inF [] = fun _ => none := by
  funext x
  simp [inF]

/-- What is known of the names that were searched in, by the names met so far. -/
def SeenIs (w : World) (B mb N : Nat) (sv : Option Nat) (K : List (List UInt8)) : Prop :=
  (K.length ≤ 16 ∧ sv = none) ∨ (16 < K.length ∧ ∃ sb n s, sv = some sb ∧ sb ≠ mb ∧ B ≤ sb ∧ n ≤ N + K.length ∧ MB w sb n (inF K) s)

theorem SeenIs.below {w w' : World} {B B' mb N : Nat} {sv : Option Nat} {K : List (List UInt8)} (h : SeenIs w B mb N sv K) (hb : Below B' w w') (hB : w.heap.size ≤ B') : SeenIs w' B mb N sv K := by
  rcases h with h | ⟨h1, sb, n, s, h2, h3, h4, h5, h6⟩
  · exact .inl h
  · exact .inr ⟨h1, sb, n, s, h2, h3, h4, h5, h6.below hb hB⟩

theorem SeenIs.turned {w w' : World} {B mb N : Nat} {sv : Option Nat} {K : List (List UInt8)} (h : SeenIs w B mb N sv K) (ht : MT w w' mb) : SeenIs w' B mb N sv K := by
  rcases h with h | ⟨h1, sb, n, s, h2, h3, h4, h5, h6⟩
  · exact .inl h
  · exact .inr ⟨h1, sb, n, s, h2, h3, h4, h5, h6.block (ht.other h6.lt h3)⟩

theorem own_block_not_map {w : World} {base : Nat} {u : Value} {ls : List (List UInt8)} {b n s : Nat} {f : List UInt8 → Option Bool} (h : ON w base u ls) (hm : MB w b n f s) : some b ≠ u.ownBlock := by
  obtain ⟨vs, ⟨_, h2⟩, _⟩ := h
  intro e
  rcases h2 with ⟨rfl, _⟩ | ⟨g, cap, cur, rfl, _, hh, _⟩
  · simp [Value.ownBlock] at e
  · simp [Value.ownBlock] at e
    subst e
    obtain ⟨es, c, hb⟩ := hm.isMap
    rw [hh] at hb
    cases hb

theorem grown_below {w w' : World} {B : Nat} {row : Option Nat} (h : w.grownBy w' row) (hB : B ≤ w.heap.size) (hr : ∀ k, row = some k → B ≤ k) : Below B w w' :=
  (Below.refl B w).grown h hB hr

/-- What holds behind a call of ZZNamed with the name nm, the names K met so far. -/
def RoundR (w0 : World) (B mb : Nat) (P K : List (List UInt8)) (nm : List UInt8) (u' : Value) (d : Bool) (s' : Option Nat) (w' : World) : Prop :=
  d = decide (nm ∈ K) ∧ ON w' B u' (P ++ (uniqStep K nm).take 16) ∧ SeenIs w' B mb P.length s' (uniqStep K nm) ∧ (∃ n s, n ≤ K.length ∧ MB w' mb n (inF K) s) ∧ Below B w0 w'

theorem script_call {w0 w : World} {B mb : Nat} {P K : List (List UInt8)} {nm : List UInt8} {v u : Value} {sv : Option Nat}
    (hP : P.length ≤ 1000000 + 100000) (hK : K.length ≤ 1000000 + 100000) (hPz : ∀ l ∈ P, l.length ≤ 2000000) (hKz : ∀ l ∈ K, l.length ≤ 2000000) (hnl : nm.length ≤ 2000000)
    (hon : ON w B u (P ++ K.take 16)) (hs : SeenIs w B mb P.length sv K) (hmet : ∃ n s, n ≤ K.length ∧ MB w mb n (inF K) s) (hmb : B ≤ mb) (hbel : Below B w0 w) (hBw : B ≤ w.heap.size)
    (hv : w.ownsRow B 5 1 v nm.length (bv nm)) :
    Calls Try.prog 27 #[.int .i64 P.length, .map sv, v, u] w (ZPost (RoundR w0 B mb P K nm)) := by
  obtain ⟨nM, sM, hnM, hMet⟩ := hmet
  have hvb := HB.ofOwn hv
  have hml : nm.length ≤ maxLen := by unfold maxLen; omega
  rcases hs with ⟨hle, rfl⟩ | ⟨hgt, sb, n, s, rfl, hne, hBs, hn, hmb'⟩
  · have htk : K.take 16 = K := List.take_of_length_le hle
    rw [htk] at hon
    have hdrop : (P ++ K).drop P.length = K := by simp
    have hlen : (P ++ K).length - P.length = K.length := by simp
    obtain ⟨p, c, rfl, hn, hc, hm, _⟩ := hon.hn
    by_cases hmem : nm ∈ K
    · refine (zz_list_hit (F := P.length) hn hc hm (by simp) hvb (by rw [hdrop]; exact hmem)).mono ?_
      rintro e w' ⟨u', d, s', rfl, rfl, rfl, rfl, hb⟩
      refine ⟨_, _, _, rfl, by simp [hmem], ?_, ?_, ⟨nM, sM, hnM, hMet.below hb (Nat.le_refl _)⟩, hbel.trans (hb.mono hBw)⟩
      · rw [uniqStep_hit hmem, htk]; exact hon.below hb (Nat.le_refl _)
      · rw [uniqStep_hit hmem]; exact .inl ⟨hle, rfl⟩
    · by_cases hsh : K.length < 16
      · refine (zz_list_add (F := P.length) hon hBw (by simp; omega) (by simp) hv (by rw [hdrop]; exact hmem) (by rw [hlen]; exact hsh)).mono ?_
        rintro e w' ⟨u', d, s', rfl, rfl, rfl, h1, hg⟩
        have hlt : ∀ k, (Value.slice p (P ++ K).length c).ownBlock = some k → B ≤ k := by
          obtain ⟨vs, h1, _⟩ := hon
          exact fun k hk => (h1.lt k hk).1
        refine ⟨_, _, _, rfl, by simp [hmem], ?_, ?_, ⟨nM, sM, hnM, hMet.block (hg.block mb hMet.lt (own_block_not_map hon hMet))⟩, hbel.trans (grown_below hg hBw hlt)⟩
        · rw [uniqStep_miss hmem, List.take_of_length_le (by simp; omega), ← List.append_assoc]; exact h1
        · rw [uniqStep_miss hmem]; exact .inl ⟨by simp; omega, rfl⟩
      · refine (zz_list_full (F := P.length) hn hc (by simp; omega) (fun i hi => ?_) (by simp) hvb hnl (by rw [hdrop]; exact hmem) (by rw [hlen]; omega)).mono ?_
        · rcases List.mem_append.1 (List.getElem_mem hi) with h | h
          · exact hPz _ h
          · exact hKz _ h
        · rintro e w' ⟨u', d, s', rfl, rfl, rfl, sb, rfl, hsb, hm1, hb⟩
          have hmlt := hMet.lt
          refine ⟨_, _, _, rfl, by simp [hmem], ?_, ?_, ⟨nM, sM, hnM, hMet.below hb (Nat.le_refl _)⟩, hbel.trans (hb.mono hBw)⟩
          · rw [uniqStep_miss hmem, List.take_append_of_le_length (by omega), List.take_of_length_le hle]
            exact hon.below hb (Nat.le_refl _)
          · rw [uniqStep_miss hmem]
            rw [hdrop, setF_inF, upd_inF] at hm1
            exact .inr ⟨by simp; omega, sb, _, _, rfl, by omega, by omega, by simp; omega, hm1⟩
  · by_cases hmem : nm ∈ K
    · refine (zz_seen_hit (F := P.length) hmb' hvb hml (by rw [inF_getD]; simp [hmem])).mono ?_
      rintro e w' ⟨u', d, s', rfl, rfl, rfl, rfl, hb⟩
      refine ⟨_, _, _, rfl, by simp [hmem], ?_, ?_, ⟨nM, sM, hnM, hMet.below hb (Nat.le_refl _)⟩, hbel.trans (hb.mono hBw)⟩
      · rw [uniqStep_hit hmem]; exact hon.below hb (Nat.le_refl _)
      · rw [uniqStep_hit hmem]; exact .inr ⟨hgt, sb, n, s, rfl, hne, hBs, hn, hmb'.below hb (Nat.le_refl _)⟩
    · refine (zz_seen_miss (F := P.length) hmb' (by unfold maxLen; omega) hvb hml (by rw [inF_getD]; simp [hmem])).mono ?_
      rintro e w' ⟨u', d, s', rfl, rfl, rfl, rfl, hm1, hg⟩
      have ht : MT w w' sb := ⟨hg, hmb'.isMap⟩
      refine ⟨_, _, _, rfl, by simp [hmem], ?_, ?_, ⟨nM, sM, hnM, hMet.block (ht.other hMet.lt (Ne.symm hne))⟩, hbel.trans (ht.below hBs)⟩
      · rw [uniqStep_miss hmem, List.take_append_of_le_length (by omega)]; exact turned_on hon ht
      · rw [uniqStep_miss hmem]
        rw [upd_inF] at hm1
        exact .inr ⟨by simp; omega, sb, _, _, rfl, hne, hBs, by simp; omega, hm1⟩

end Go.Proofs.Qxb6603282a
