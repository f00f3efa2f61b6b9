import Derived.Test.Qxb6003135aHex4
namespace Go.Proofs.Qxb6003135a
open Go.RowKit

/-- The digit of a nibble. -/
def nd (n : Nat) (up : Bool) : UInt8 := if n < 10 then UInt8.ofNat (48 + n) else if up then UInt8.ofNat (55 + n) else UInt8.ofNat (87 + n)

theorem hv_nd : ∀ (n : Fin 16) (up : Bool), hv (nd n.val up) = some n.val := by decide +kernel

theorem nd_a {n : Nat} (up : Bool) (h : n < 10) : ((nd n up).toNat : Int) = 48 + n := by
  unfold nd
  rw [if_pos h, UInt8.toNat_ofNat']
  omega
theorem nd_b {n : Nat} (h : ¬ n < 10) (h2 : n < 16) : ((nd n true).toNat : Int) = 65 + n - 10 := by
  unfold nd
  rw [if_neg h, if_pos rfl, UInt8.toNat_ofNat']
  omega
theorem nd_c {n : Nat} (h : ¬ n < 10) (h2 : n < 16) : ((nd n false).toNat : Int) = 97 + n - 10 := by
  unfold nd
  rw [if_neg h, if_neg (by simp), UInt8.toNat_ofNat']
  omega

set_option maxHeartbeats 400000 in
/-- nibbleDigit. -/
theorem nibbleDigit (n : Nat) (up : Bool) (w : World) (h : n < 16) :
    Calls Try.prog 11 #[.int .u8 (n : Int), .bool up] w fun e w' => e = .returned (.int .u8 ((nd n up).toNat : Int)) ∧ w' = w := by
  by_cases h1 : n < 10
  · rw [nd_a up h1]
    have h2 : (n : Int) < 10 := by omega
    go_enter Try.func11, Try.ntmps11
    go_wp2
    go_ret
    exact ⟨rfl, rfl⟩
  · have h2 : ¬ (n : Int) < 10 := by omega
    cases up
    · rw [nd_c h1 h]
      go_enter Try.func11, Try.ntmps11
      go_wp2
      go_ret
      exact ⟨rfl, rfl⟩
    · rw [nd_b h1 h]
      go_enter Try.func11, Try.ntmps11
      go_wp2
      go_ret
      exact ⟨rfl, rfl⟩

/-- Block B is a row of the bytes L. -/
def RB (w : World) (B : Nat) (L : List UInt8) : Prop := w.rowIs B 5 L.length (fun j => .int .u8 ((L.getD j 0).toNat : Int))

theorem row_congr {w : World} {b : Nat} {t : TypeId} {n : Nat} {f g : Nat → Value} (h : w.rowIs b t n f) (he : ∀ j, j < n → f j = g j) : w.rowIs b t n g := by
  obtain ⟨c, hb, hs, hc⟩ := h
  exact ⟨c, hb, hs, fun j hj => by rw [hc j hj, he j hj]⟩

theorem RB.set {w : World} {B : Nat} {L : List UInt8} (h : RB w B L) (k : Nat) (x : UInt8) : RB (w.setCell ⟨B, k, none⟩ (.int .u8 (x.toNat : Int))) B (L.set k x) := by
  have h1 := World.rowIs.set h k (.int .u8 (x.toNat : Int))
  unfold RB
  rw [List.length_set]
  refine row_congr h1 fun j hj => ?_
  by_cases e : j = k
  · subst e
    simp [List.getD, hj]
  · rw [if_neg e]
    simp [List.getD, List.getElem?_set_ne (Ne.symm e)]

theorem RB.made {w : World} {B n : Nat} (h : w.rowIs B 5 n fun _ => .int .u8 0) : RB w B (List.replicate n 0) := by
  unfold RB
  rw [List.length_replicate]
  refine row_congr h fun j hj => ?_
  simp [List.getD, hj]

theorem RB.hb {w : World} {B : Nat} {L : List UInt8} (h : RB w B L) (hm : L.length ≤ maxLen) : HB w (.slice (some ⟨B, 0, none⟩) L.length L.length) L :=
  hb_of_row rfl hm h fun j hj => by simp [List.getD, hj]

/-- What the four digits of u spell. -/
theorem spelt {u : Nat} {up : Bool} {L : List UInt8} (hu : u < 65536) (hl : 4 ≤ L.length) (h : L.take 4 = [nd (u / 4096) up, nd (u / 256 % 16) up, nd (u / 16 % 16) up, nd (u % 16) up]) :
    ok4 L = true ∧ r4 L = u := by
  have e : ∀ n, n < 16 → hv (nd n up) = some n := fun n hn => hv_nd ⟨n, hn⟩ up
  have e0 := e (u / 4096) (by omega)
  have e1 := e (u / 256 % 16) (by omega)
  have e2 := e (u / 16 % 16) (by omega)
  have e3 := e (u % 16) (by omega)
  have hok : ok4 L = true := by simp [ok4, hl, h, digits, e0, e1, e2, e3]
  refine ⟨hok, ?_⟩
  unfold r4
  rw [hok, h]
  simp [acc, e0, e1, e2, e3]
  omega

end Go.Proofs.Qxb6003135a
