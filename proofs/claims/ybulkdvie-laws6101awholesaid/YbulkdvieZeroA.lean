import Derived.Test.YbulkdvieLawA
namespace Go.Proofs.Ybulkdvie
open Go.RowKit Go.Maps

set_option maxHeartbeats 400000 in
theorem lawA_zero (a : Option Addr) (cap : Nat) (sel : Int) (raw : ByteArray) (w : World) (hraw : raw.size ≤ maxLen) :
    Calls Yba.prog 3 #[.slice a 0 cap, .int .u8 sel, .string raw] w fun e w' => e = .returned (.bool true) ∧ Below w.heap.size w w' := by
  have hmm := @run_makeMap Yba.prog
  obtain ⟨D, hown, hsz, hh⟩ := map_start w
  have hlen1 := fun ty => hown.len Yba.underlying25 ty
  have hat2 : ∀ z, D.atKey (.string raw.data.toList) z = z := fun z => by rw [hh]
  clear hh
  go_enter Yba.func3, Yba.ntmps3
  go_wp2
  refine wp_loop_rounds 1 ?_
  rw [rounds_succ]
  go_wp2
  refine wp_loop_rounds 1 ?_
  rw [rounds_succ]
  go_wp2_with fail
  refine (sum_none w.heap.size _ D raw _ hown hraw hat2).mono ?_
  rintro e w3 ⟨rfl, hb3⟩
  have hlen3 := fun ty => (own_keep hown hb3).len Yba.underlying25 ty
  have hB4 : Below w.heap.size w w3 := (Joins.below_alloc1 w _).trans (hb3.mono (by simp))
  clear hb3 hat2 hown
  go_wp2
  go_ret
  exact ⟨rfl, hB4⟩

end Go.Proofs.Ybulkdvie
