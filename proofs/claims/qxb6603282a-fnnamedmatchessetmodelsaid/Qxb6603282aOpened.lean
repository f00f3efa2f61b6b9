import Derived.Test.Qxb6603282aNested
import Derived.ProofKit
import Derived.OpenShut
import Derived.Deep.Matrix
namespace Go.Proofs.Qxb6603282a
open Go.RowKit Go.ChangeShapes Go.WideShapes Go.Deep

theorem cells5 : Try.prog.cellsOf 5 = 1 := by kernel_rfl
theorem cells28 : Try.prog.cellsOf 28 = 1 := by kernel_rfl

theorem byte_of_wf {n : Int} (h : (Lit.int .u8 n).wf = true) : ((UInt8.ofNat n.toNat).toNat : Int) = n := by
  have := bounds_u8 h
  rw [UInt8.toNat_ofNat']
  omega

theorem plain_addr {w : World} {a : Addr} {i : Nat} {v : Value} (h0 : ∀ j, j ≤ i → ∃ u, w.cell? (a.add j) = some u) (h : w.cell? (a.add i) = some v) : ∃ b off, a = ⟨b, off, none⟩ ∧ w.cell? ⟨b, off + i, none⟩ = some v := by
  obtain ⟨b, off, spot⟩ := a
  obtain ⟨u, hu⟩ := h0 0 (Nat.zero_le _)
  have hspot : spot = none := by simpa [Addr.add] using World.cell?_spot hu
  subst hspot
  exact ⟨b, off, rfl, by rw [← add_plain]; exact h⟩

/-- The numbers of a row of bytes, as bytes. -/
theorem hb_of_cells {w : World} {p : Option Addr} {L C : Nat} {Z : List Int} (hL : L ≤ C) (hC : C ≤ maxLen) (hZ : Z.length = C) (hwf : ∀ n ∈ Z, (Lit.int .u8 n).wf = true) (hn : p = none → C = 0)
    (hc : ∀ a, p = some a → ∀ c, c < C → w.cell? (a.add c) = some (.int .u8 (Z.getD c 0))) :
    ∃ l : List UInt8, l.length = L ∧ HB w (.slice p L C) l := by
  refine ⟨(Z.take L).map fun n => UInt8.ofNat n.toNat, by simp; omega, ?_⟩
  by_cases h0 : L = 0
  · subst h0
    exact .inl ⟨by simp, p, C, rfl⟩
  · cases p with
    | none => have := hn rfl; omega
    | some a =>
      have hall := hc a rfl
      obtain ⟨b, off, rfl, _⟩ := plain_addr (i := 0) (fun j hj => ⟨_, hall j (by omega)⟩) (hall 0 (by omega))
      refine .inr ⟨b, off, C, by simp; omega, by simp; omega, by simp; omega, hC, fun i hi => ?_⟩
      have hi' : i < L := by simp at hi; omega
      have := hall i (by omega)
      rw [add_plain] at this
      rw [this]
      have hz : i < Z.length := by omega
      simp only [List.getElem_map, List.getElem_take, List.getD, List.getElem?_eq_getElem hz, Option.getD_some]
      rw [byte_of_wf (hwf _ (List.getElem_mem hz))]

/-- AN ARGUMENT OF TYPE [][]byte, OPENED. -/
theorem opened_names {H : Type} {enc : TypeId × Value → H} {W : World} {a0 : Option Addr} {len cap : Nat} {d0 : DataW H} {p : List MemPlace}
    (h0 : DataW.Trod enc Try.prog W 0 (fun _ => true) true 36 (.slice a0 len cap) d0 p) :
    ∃ ls : List (List UInt8), ls.length = len ∧ len ≤ cap ∧ cap ≤ maxLen ∧ HN W a0 ls := by
  obtain ⟨fuel, hf⟩ := h0
  rcases open_int_rows Try.underlying36 Try.underlying28 Try.underlying5 cells28 cells5 hf with ⟨hcs, _⟩ | ⟨a, len', cap', A, L, C, Z, hcs, _, hl, hm, _, hr⟩
  · simp [Value.cells] at hcs
    obtain ⟨rfl, rfl, rfl⟩ := hcs
    exact ⟨[], rfl, Nat.le_refl _, Nat.zero_le _, fun i hi => by simp at hi⟩
  · simp [Value.cells] at hcs
    obtain ⟨rfl, rfl, rfl⟩ := hcs
    have hch : ∀ r, r < len → ∃ l : List UInt8, HB W (.slice (A r) (L r) (C r)) l := by
      intro r hrl
      obtain ⟨_, h2, h3, h4, h5, h6, h7⟩ := hr r (by omega)
      obtain ⟨l, _, hb⟩ := hb_of_cells h2 h3 h4 h5 h6 (fun a' ha' => (h7 a' ha').2)
      exact ⟨l, hb⟩
    obtain ⟨G, hG⟩ := choose_lt (α := List UInt8) (p := fun r l => HB W (.slice (A r) (L r) (C r)) l) hch
    refine ⟨(List.range len).map G, by simp, hl, hm, fun i hi => ?_⟩
    have hi' : i < len := by simpa using hi
    obtain ⟨b, off, rfl, hcell⟩ := plain_addr (fun j hj => ⟨_, (hr j (by omega)).1⟩) (hr i (by omega)).1
    exact ⟨b, off, rfl, _, hcell, by simpa using hG i hi'⟩

/-- AN ARGUMENT OF TYPE []byte, OPENED. -/
theorem opened_bytes {H : Type} {enc : TypeId × Value → H} {W : World} {a0 : Option Addr} {len cap : Nat} {d0 : DataW H} {p : List MemPlace}
    (h0 : DataW.Trod enc Try.prog W 0 (fun _ => true) true 28 (.slice a0 len cap) d0 p) :
    ∃ l : List UInt8, l.length = len ∧ HB W (.slice a0 len cap) l := by
  obtain ⟨fuel, hf⟩ := h0
  rcases open_ints Try.underlying28 Try.underlying5 cells5 hf with ⟨hcs, _⟩ | ⟨a, len', cap', zs, hcs, _, hl, hm, hz, _, hcell, hwz⟩
  · simp [Value.cells] at hcs
    obtain ⟨rfl, rfl, rfl⟩ := hcs
    exact ⟨[], rfl, .inl ⟨rfl, _, _, rfl⟩⟩
  · simp [Value.cells] at hcs
    obtain ⟨rfl, rfl, rfl⟩ := hcs
    simp only [if_true] at hz
    refine hb_of_cells hl hm hz hwz (fun h => by cases h) (fun a' ha' c hc => ?_)
    cases ha'
    exact hcell c (by omega)

end Go.Proofs.Qxb6603282a
