import Derived.Test.Qxb6603282aSetWalkB
namespace Go.Proofs.Qxb6603282a
open Go.RowKit

theorem set_walk {w : World} (F : Int) (sn : Bool) (p q r : Option Addr) (c d cr : Nat) {ks : List (List UInt8)} {vs : List Bool} {v : Value} {nm : List UInt8} {ls : List (List UInt8)} (hk : HK w p ks) (hvs : HV w q vs) (hv : HB w v nm) (hn : HN w r ls) (hcr : ls.length ≤ cr) :
    Calls Try.prog 7 #[.int .i64 F, .bool sn, .slice p ks.length c, .slice q vs.length d, v, .slice r ls.length cr] w fun e w' => e = .returned (.bool true) ∧ Below w.heap.size w w' := by
  cases sn
  · exact set_walk_seen F p q r c d cr hk hvs hv hn
  · exact set_walk_nil F p q r c d cr hk hvs hv hn hcr

end Go.Proofs.Qxb6603282a
