import Derived.Test.Qxb6001440aMainA
import Derived.Test.Qxb6001440aMainB
import Derived.Test.Qxb6001440aMainB2
import Derived.Test.Qxb6001440aMainC
import Derived.Test.Qxb6001440aMainD
import Derived.Test.Qxb6001440aMainD2
import Derived.Test.Qxb6001440aMainE
import Derived.Test.Qxb6001440aMainE2
import Derived.Test.Qxb6001440aMainF
import Derived.Test.Qxb6001440aMainG
namespace Go.Proofs.Qxb6001440a
open Go.RowKit

theorem mainM_any (T F U : List UInt8) (hT : T.length ≤ 65536) (hF : F.length ≤ 65536) (hU : U.length ≤ 65536) (w : World) :
    Calls Try.prog 4 #[.string (ofL T), .string (ofL F), .string (ofL U)] w fun e w' => e = .returned (.bool true) ∧ Below w.heap.size w w' := by
  cases hG : globB T
  · rcases Nat.eq_zero_or_pos (plus T) with hP | hP
    · exact mainM_fz T F U hT hF hU hG hP w
    · by_cases hF0 : F = []
      · exact mainM_fpe T F U hT hF hU hG hP hF0 w
      · exact mainM_fpn T F U hT hF hU hG hP hF0 w
  · by_cases hU0 : U = []
    · rcases Nat.eq_zero_or_pos (plus T) with hP | hP
      · exact mainM_tz0 T F U hT hF hU hG hP hU0 w
      · by_cases hF0 : F = []
        · exact mainM_tp0e T F U hT hF hU hG hP hU0 hF0 w
        · exact mainM_tp0n T F U hT hF hU hG hP hU0 hF0 w
    · rcases Nat.eq_zero_or_pos (plus T) with hP | hP
      · by_cases hF0 : F = []
        · exact mainM_tzne T F U hT hF hU hG hP hU0 hF0 w
        · exact mainM_tznn T F U hT hF hU hG hP hU0 hF0 w
      · by_cases hF0 : F = []
        · exact mainM_tpne T F U hT hF hU hG hP hU0 hF0 w
        · exact mainM_tpnn T F U hT hF hU hG hP hU0 hF0 w
end Go.Proofs.Qxb6001440a
