import Derived.Test.Qxb6603282aSetPlain
import Derived.Test.Qxb6603282aOpened
import Derived.Deep.Slices
namespace Go.Proofs.Qxb6603282a
open Go.RowKit Go.ChangeShapes Go.WideShapes Go.Deep

theorem cellsS9 : Try.prog.cellsOf 9 = 1 := by kernel_rfl
theorem cellsS4 : Try.prog.cellsOf 4 = 1 := by kernel_rfl

theorem str_of (s : ByteArray) : str s.data.toList = s := by
  cases s
  simp [str]

/-- AN ARGUMENT OF TYPE []string, OPENED. -/
theorem opened_strs {H : Type} {enc : TypeId × Value → H} {W : World} {a0 : Option Addr} {len cap : Nat} {d0 : DataW H} {p : List MemPlace}
    (h0 : DataW.Trod enc Try.prog W 0 (fun _ => true) true 29 (.slice a0 len cap) d0 p) :
    ∃ ks : List (List UInt8), ks.length = len ∧ HK W a0 ks := by
  obtain ⟨fuel, hf⟩ := h0
  rcases open_slice1 Try.underlying29 cellsS9 hf with ⟨hcs, _⟩ | ⟨a, len', cap', m, n, V, D, Pl, hcs, _, hl, hm, hmm, _, hr⟩
  · simp [Value.cells] at hcs
    obtain ⟨rfl, rfl, rfl⟩ := hcs
    exact ⟨[], rfl, fun i hi => by simp at hi⟩
  · simp [Value.cells] at hcs
    obtain ⟨rfl, rfl, rfl⟩ := hcs
    simp only [if_true] at hmm
    subst hmm
    have hch : ∀ r, r < len → ∃ l : List UInt8, W.cell? (a.add r) = some (.string (str l)) := by
      intro r hrl
      obtain ⟨h1, h2⟩ := hr r (by omega)
      obtain ⟨s, e, _, _⟩ := DataW.trod_string Try.underlying9 h2
      simp at e
      exact ⟨s.data.toList, by rw [h1, e, str_of]⟩
    obtain ⟨G, hG⟩ := choose_lt (α := List UInt8) (p := fun r l => W.cell? (a.add r) = some (.string (str l))) hch
    refine ⟨(List.range len).map G, by simp, fun i hi => ?_⟩
    have hi' : i < len := by simpa using hi
    obtain ⟨b, off, rfl, hcell⟩ := plain_addr (fun j hj => ⟨_, hG j (by omega)⟩) (hG i hi')
    exact ⟨b, off, rfl, by simpa using hcell⟩

/-- AN ARGUMENT OF TYPE []bool, OPENED. -/
theorem opened_bools {H : Type} {enc : TypeId × Value → H} {W : World} {a0 : Option Addr} {len cap : Nat} {d0 : DataW H} {p : List MemPlace}
    (h0 : DataW.Trod enc Try.prog W 0 (fun _ => true) true 35 (.slice a0 len cap) d0 p) :
    ∃ bs : List Bool, bs.length = len ∧ HV W a0 bs := by
  obtain ⟨fuel, hf⟩ := h0
  rcases open_slice1 Try.underlying35 cellsS4 hf with ⟨hcs, _⟩ | ⟨a, len', cap', m, n, V, D, Pl, hcs, _, hl, hm, hmm, _, hr⟩
  · simp [Value.cells] at hcs
    obtain ⟨rfl, rfl, rfl⟩ := hcs
    exact ⟨[], rfl, fun i hi => by simp at hi⟩
  · simp [Value.cells] at hcs
    obtain ⟨rfl, rfl, rfl⟩ := hcs
    simp only [if_true] at hmm
    subst hmm
    have hch : ∀ r, r < len → ∃ x : Bool, W.cell? (a.add r) = some (.bool x) := by
      intro r hrl
      obtain ⟨h1, h2⟩ := hr r (by omega)
      obtain ⟨x, e, _⟩ := DataW.trod_bool Try.underlying4 h2
      simp at e
      exact ⟨x, by rw [h1, e]⟩
    obtain ⟨G, hG⟩ := choose_lt (α := Bool) (p := fun r x => W.cell? (a.add r) = some (.bool x)) hch
    refine ⟨(List.range len).map G, by simp, fun i hi => ?_⟩
    have hi' : i < len := by simpa using hi
    obtain ⟨b, off, rfl, hcell⟩ := plain_addr (fun j hj => ⟨_, hG j (by omega)⟩) (hG i hi')
    exact ⟨b, off, rfl, by simpa using hcell⟩

end Go.Proofs.Qxb6603282a
