import Derived.Test.Qxb6603282aRules
import Derived.ProofKit
import Derived.OpenShut
import Derived.Deep.Strs
namespace Go.Proofs.Qxb6603282a
open Go.RowKit Go.ChangeShapes Go.WideShapes Go.Deep

theorem cellsR52 : Try.prog.cellsOf 52 = 3 := by kernel_rfl
theorem cellsR5 : Try.prog.cellsOf 5 = 1 := by kernel_rfl
theorem cellsR9 : Try.prog.cellsOf 9 = 1 := by kernel_rfl

theorem byteR {n : Int} (h : (Lit.int .u8 n).wf = true) : ((UInt8.ofNat n.toNat).toNat : Int) = n := by
  have := bounds_u8 h
  rw [UInt8.toNat_ofNat']
  omega

theorem three_list {α : Type} {cs : List α} (h : cs.length = 3) : ∃ a b c, cs = [a, b, c] := by
  match cs, h with
  | [a, b, c], _ => exact ⟨a, b, c, rfl⟩

theorem addr3 (b off i j : Nat) : ((⟨b, off, none⟩ : Addr).add (i * 3)).add j = ⟨b, off + i * 3 + j, none⟩ := by
  rw [add_plain, add_plain]

/-- AN ARGUMENT OF TYPE []PorterRule, OPENED. -/
theorem opened_rules {H : Type} {enc : TypeId × Value → H} {W : World} {a0 : Option Addr} {len cap : Nat} {d0 : DataW H} {p : List MemPlace}
    (h0 : DataW.Trod enc Try.prog W 0 (fun _ => true) true 25 (.slice a0 len cap) d0 p) :
    ∃ rs : List Rule, rs.length = len ∧ HR W a0 rs := by
  obtain ⟨fuel, hf⟩ := h0
  rcases open_slice Try.underlying25 hf with ⟨hcs, _⟩ | ⟨a, len', cap', m, n, D, Pl, hcs, _, hl, hm, hmm, _, hr⟩
  · simp [Value.cells] at hcs
    obtain ⟨rfl, rfl, rfl⟩ := hcs
    exact ⟨[], rfl, fun i hi => by simp at hi⟩
  · simp [Value.cells] at hcs
    obtain ⟨rfl, rfl, rfl⟩ := hcs
    simp only [if_true] at hmm
    subst hmm
    rw [cellsR52] at hr
    have hch : ∀ r, r < len → ∃ x : Rule, W.cell? (a.add (r * 3)) = some (.int .u8 (x.1.toNat : Int)) ∧ W.cell? ((a.add (r * 3)).add 1) = some (.string (st x.2.1)) ∧ W.cell? ((a.add (r * 3)).add 2) = some (.string (st x.2.2)) := by
      intro r hrl
      obtain ⟨cs', h1, h2⟩ := hr r (by omega)
      obtain ⟨_, hlen, hcell⟩ := World.cells?_some h1
      obtain ⟨c0, c1, c2, rfl⟩ := three_list hlen
      obtain ⟨y0, y1, y2, n', _, _, t0, t1, t2⟩ := trod_struct3 Try.underlying52 h2
      simp [cellsR5, cellsR9] at t0 t1 t2
      obtain ⟨z, e0, _, wz⟩ := DataW.trod_int Try.underlying5 t0
      obtain ⟨s1, e1, _, _⟩ := DataW.trod_string Try.underlying9 t1
      obtain ⟨s2, e2, _, _⟩ := DataW.trod_string Try.underlying9 t2
      simp at e0 e1 e2
      subst e0 e1 e2
      refine ⟨(UInt8.ofNat z.toNat, s1.data.toList, s2.data.toList), ?_, ?_, ?_⟩
      · have := hcell 0 (by omega)
        rw [byteR wz]
        simpa [Addr.add] using this
      · have := hcell 1 (by omega)
        simpa [st_of] using this
      · have := hcell 2 (by omega)
        simpa [st_of] using this
    obtain ⟨G, hG⟩ := choose_lt (α := Rule) (p := fun r x => W.cell? (a.add (r * 3)) = some (.int .u8 (x.1.toNat : Int)) ∧ W.cell? ((a.add (r * 3)).add 1) = some (.string (st x.2.1)) ∧ W.cell? ((a.add (r * 3)).add 2) = some (.string (st x.2.2))) hch
    refine ⟨(List.range len).map G, by simp, fun i hi => ?_⟩
    have hi' : i < len := by simpa using hi
    obtain ⟨b, off, spot⟩ := a
    have hspot : spot = none := by
      have := (hG 0 (by omega)).1
      simpa [Addr.add] using World.cell?_spot this
    subst hspot
    obtain ⟨g1, g2, g3⟩ := hG i hi'
    rw [add_plain] at g1
    rw [addr3] at g2 g3
    exact ⟨b, off, rfl, by simpa using g1, by simpa using g2, by simpa using g3⟩

end Go.Proofs.Qxb6603282a
