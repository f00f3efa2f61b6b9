import Derived.Test.Qxb6603282aSets
import Derived.RegionTactic
namespace Go.Proofs.Qxb6603282a
open Go.RowKit

theorem eqNil41 (w : World) (r : Option Nat) : (binOp .eql 41 (.map r) (.map none)).run Try.prog w = .ok (.bool r.isNone) w :=
  run_eql_map_nil w 41 9 4 r Try.underlying41

set_option maxHeartbeats 400000 in
/-- named, the names in a map, the name there. -/
theorem named_seen_hit {w : World} {vb sb n s : Nat} {f : List UInt8 → Option Bool} {nm : List UInt8} {v u : Value}
    (c2 : w.cell? ⟨vb, 2, none⟩ = some (.map (some sb)))
    (hm : MB w sb n f s) (hv : HB w v nm) (hl : nm.length ≤ maxLen) (hf : (f nm).getD false = true) :
    Calls Try.prog 39 #[.pointer (some ⟨vb, 0, none⟩), v, u] w fun e w' => e = .returned (.tuple #[u, .bool true]) ∧ ∃ j, w' = w.drewN j := by
  have hq := eqNil41
  have hlk : ∀ j, (Instr.lookup 41 (.map (some sb)) (.string (str nm)) false).run Try.prog (w.drewN j) = .ok (.bool true) (w.drewN j) := by
    intro j
    have := (hm.block (w' := w.drewN j) (by simp)).look hl
    rw [hf] at this
    exact this
  have hcv : ∀ j, (convert 28 9 v).run Try.prog (w.drewN j) = .ok (.string (str nm)) (w.drewN j) := fun j => (hv.drewN j).convert
  clear hm hv hf
  go_enter Try.func39, Try.ntmps39
  go_wp2
  go_quiet (fail)
  go_wp2
  go_ret2
  exact ⟨rfl, _, rfl⟩

set_option maxHeartbeats 400000 in
/-- named, the names in a map, the name not there. -/
theorem named_seen_miss {w : World} {vb sb n s : Nat} {f : List UInt8 → Option Bool} {nm : List UInt8} {v u : Value}
    (c2 : w.cell? ⟨vb, 2, none⟩ = some (.map (some sb)))
    (hm : MB w sb n f s) (hn : n < maxLen) (hv : HB w v nm) (hl : nm.length ≤ maxLen) (hf : (f nm).getD false = false) :
    Calls Try.prog 39 #[.pointer (some ⟨vb, 0, none⟩), v, u] w fun e w' => e = .returned (.tuple #[u, .bool false]) ∧
      MB w' sb (n + 1) (upd f nm true) (cnt f nm s) ∧ MT w w' sb := by
  have hq := eqNil41
  have hlk : ∀ j, (Instr.lookup 41 (.map (some sb)) (.string (str nm)) false).run Try.prog (w.drewN j) = .ok (.bool false) (w.drewN j) := by
    intro j
    have := (hm.block (w' := w.drewN j) (by simp)).look hl
    rw [hf] at this
    exact this
  have hcv : ∀ j, (convert 28 9 v).run Try.prog (w.drewN j) = .ok (.string (str nm)) (w.drewN j) := fun j => (hv.drewN j).convert
  have hst : ∀ j, ∃ w', (Instr.mapUpdate 41 (.map (some sb)) (.string (str nm)) (.bool true)).run Try.prog (w.drewN j) = .ok () w' ∧ MB w' sb (n + 1) (upd f nm true) (cnt f nm s) ∧ MT (w.drewN j) w' sb :=
    fun j => (hm.block (w' := w.drewN j) (by simp)).store hn hl true
  clear hm hv hf
  go_enter Try.func39, Try.ntmps39
  go_wp2
  go_quiet (fail)
  obtain ⟨w2, hrun, hm2, ht2⟩ := hst (nq + 1)
  have HM : Hid (MB w2 sb (n + 1) (upd f nm true) (cnt f nm s) ∧ MT (w.drewN (nq + 1)) w2 sb) := ⟨hm2, ht2⟩
  clear hst hm2 ht2
  go_wp2
  go_region
  go_wp2
  go_ret2
  exact ⟨rfl, HM.out.1, HM.out.2.ofDrewN⟩

end Go.Proofs.Qxb6603282a
