/- impl.payload: the payload of a message in packets. -/
import Derived.Test.YtahcaoenddapoaaUnpk
namespace Go.Proofs.Ytahcaoenddapoaa
open Go.RowKit

set_option maxRecDepth 100000 in
theorem payload_any (typ : Nat) (D T : List Nat) (ht : typ < 256) (hS : Str 32767 typ false D T) (hD : D.length ≤ 10000000) (hT : T.length ≤ 1000000) (A : Option Addr) (n c : Nat) (w : World) (hx : Bts w (.slice A n c) D) :
    Calls Try.prog 47 #[.slice A n c, .bool true] w fun e w' => ∃ v, e = .returned (.tuple #[v, .bool true]) ∧ Row w.heap.size w' v T ∧ Fresh w w' := by
  go_enter Try.func47, Try.ntmps47
  go_wp2_with (fail)
  refine (implUnpack_any typ D T ht hS hD hT A n c _ hx).mono ?_
  rintro e w1 ⟨v, rfl, hr, hF⟩
  have HR := Go.Lib.hid hr
  clear hr
  go_wp2
  go_ret2
  exact ⟨v, rfl, HR.out, hF⟩
end Go.Proofs.Ytahcaoenddapoaa
