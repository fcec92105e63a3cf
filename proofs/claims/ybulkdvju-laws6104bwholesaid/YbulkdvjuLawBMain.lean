import Derived.Test.YbulkdvjuLawBF
import Derived.Test.YbulkdvjuLawBN
import Derived.Test.YbulkdvjuLawBV
namespace Go.Proofs.Ybulkdvju
open Go.RowKit

theorem lawB_main (cJ cC : Int) (cH : Bool) (cT : Nat) (nano wt : Int) (ta pa : Option Addr) (tn tc pn pc tb toff pb poff : Nat) (J1 C1 : Nat → Int) (T1 M1 : Nat → Nat) (J2 C2 : Nat → Int) (T2 M2 : Nat → Nat) (w : World)
    (hj0 : 0 ≤ cJ) (hj1 : cJ ≤ 255) (hc0 : 0 ≤ cC) (hc1 : cC ≤ 255) (hsum : tn + pn ≤ 65536) (I1 : InE ta tn tb toff J1 C1 T1 M1 w) (I2 : InE pa pn pb poff J2 C2 T2 M2 w) :
    Calls Yba.prog 3 #[.int .u8 cJ, .bool cH, .int .u8 cC, .float .f64 cT, .int .i64 nano, .int .i64 wt, .slice ta tn tc, .slice pa pn pc] w fun e w' => e = .returned (.bool true) ∧ Below w.heap.size w w' := by
  cases cH
  · exact lawB_F cJ cC cT nano wt ta pa tn tc pn pc tb toff pb poff J1 C1 T1 M1 J2 C2 T2 M2 w hj0 hj1 hsum I1 I2
  · by_cases h : ∃ j, j < tn ∧ Mq J1 C1 cJ cC j
    · obtain ⟨mx, h1, h2⟩ := h
      exact lawB_T cJ cC cT nano wt ta pa tn tc pn pc tb toff pb poff J1 C1 T1 M1 J2 C2 T2 M2 w hj0 hj1 hc0 hc1 hsum mx h1 h2 I1 I2
    · exact lawB_N cJ cC cT nano wt ta pa tn tc pn pc tb toff pb poff J1 C1 T1 M1 J2 C2 T2 M2 w hj0 hj1 hc0 hc1 hsum (fun j hj hm => h ⟨j, hj, hm⟩) I1 I2

end Go.Proofs.Ybulkdvju
