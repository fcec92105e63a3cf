import Derived.Test.YbulkdvjuTail
namespace Go.Proofs.Ybulkdvju
open Go.RowKit
attribute [local go_sem] run_store_float

set_option maxRecDepth 100000 in
set_option maxHeartbeats 1000000 in
theorem lawC_zero (a : Option Addr) (cap : Nat) (name : ByteArray) (w : World) :
    Calls Yba.prog 4 #[.slice a 0 cap, .string name] w fun e w' => e = .returned (.bool true) ∧ Below w.heap.size w w' := by
  have hmk : ∀ w, (Instr.makeSlice 69 (.int .i64 0) (.int .i64 0)).run Yba.prog w = .ok (.slice (some ⟨w.heap.size, 0, none⟩) 0 0) (w.alloc (.cells (blankH 0) 72)) := fun w => make69 0 (by omega) w
  have hfb := fbits
  go_enter Yba.func4, Yba.ntmps4
  go_wp2
  refine wp_loop_rounds 1 ?_
  rw [rounds_succ]
  go_wp2
  refine wp_loop_rounds 1 ?_
  rw [rounds_succ]
  go_wp2
  refine wp_loop_rounds 1 ?_
  rw [rounds_succ]
  go_wp2_with fail
  have HF := fill2_start 0 (fun _ => 0) (fun _ => ⟨#[]⟩) (fun _ => false) (fun _ => 0) (fun _ _ => ⟨#[]⟩) stF name w (fun _ => 0) (fun _ => 0)
  refine (job_any (w.heap.size + 1) 0 0 (fun _ => 0) (fun _ => ⟨#[]⟩) (fun _ => false) (fun _ => 0) (fun _ => 0) (fun _ => 0) (fun _ _ => ⟨#[]⟩) stF name _ (by omega) (fun i hi _ => absurd hi (Nat.not_lt_zero _)) (HF.hosts.keep (Joins.below_alloc1 _ _))).mono ?_
  rintro e w5 ⟨vh, vj, ok, rfl, HJT, hb5⟩
  obtain ⟨fa, fb, fc, fd, fn, fs, ft, rfl, rfl, HFin⟩ := job_final HJT want_start
  have hB5 : Below w.heap.size w w5 := (Joins.below_alloc3 w _ _ _).trans (hb5.mono (by simp; omega))
  clear HJT HF hb5
  rcases HFin with ⟨rfl, _, rfl, rfl, rfl, rfl, rfl, rfl, rfl⟩ | ⟨rfl, i, q, h1, _, hi, _⟩
  · go_wp2
    refine wp_loop_rounds 1 ?_
    rw [rounds_succ]
    go_wp2
    go_ret
    exact ⟨rfl, (hB5.alloc hB5.size _).alloc (by simp; have := hB5.size; omega) _⟩
  · omega

end Go.Proofs.Ybulkdvju
