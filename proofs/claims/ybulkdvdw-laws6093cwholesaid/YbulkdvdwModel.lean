import Derived.Test.YbulkdvdwRows
import Derived.WalkKit
import Derived.WalkSpells
import Derived.WalkLawsBesides
import Derived.Deep.Light
import Derived.BigQuiet
namespace Go.Proofs.Ybulkdvdw
open Go.RowKit

/-- What both 'fits' and the model answer. -/
def fitB (bs bw bn bt bh ln lh lm as_ an at_ slack th tn tl tm : Int) : Bool :=
  decide (tn = ln) && decide (tl = lh) && decide (tm = lm) && decide (wrap64 (wrap64 (bn - wrap64 (10 * bw)) - 100000) ≤ slack) && decide (wrap64 (bt + at_) ≤ wrap64 (wrap64 (10 * wrap64 (bs + as_)) + 1048576)) &&
    (!decide (0 < ln) || decide (wrap64 (bn + an) ≤ ln)) && (!decide (0 < lh) || decide (wrap64 (bh + th) ≤ lh))

theorem below4 (w : World) (a b c d : Obj) : Below w.heap.size w ((((w.alloc a).alloc b).alloc c).alloc d) :=
  ((((Below.refl _ _).alloc (Nat.le_refl _) _).alloc (by simp) _).alloc (by simp; omega) _).alloc (by simp; omega) _

theorem below_one (w : World) (a : Obj) : Below w.heap.size w (w.alloc a) := (Below.refl _ _).alloc (Nat.le_refl _) _
theorem below_dn {B : Nat} {w w' : World} (h : Below B w w') (n : Nat) : Below B w (w'.drewN n) := ⟨h.os, h.tape, h.output, h.size, h.block⟩

set_option maxHeartbeats 400000 in
theorem model_any (bs bw bn bt bh ln lh lm as_ aw an at_ ah slack th tn tl tm : Int) (w : World) :
    Calls Yba.prog 5 #[.agg #[.int .i64 bs, .int .i64 bw, .int .i64 bn, .int .i64 bt, .int .i64 bh], .agg #[.int .i64 ln, .int .i64 lh, .int .i64 lm], .agg #[.int .i64 as_, .int .i64 aw, .int .i64 an, .int .i64 at_, .int .i64 ah], .int .i64 slack, .int .i64 th, .agg #[.int .i64 tn, .int .i64 tl, .int .i64 tm]] w fun e w' =>
      e = .returned (.bool (fitB bs bw bn bt bh ln lh lm as_ an at_ slack th tn tl tm)) ∧ Below w.heap.size w w' := by
  go_enter Yba.func5, Yba.ntmps5
  go_wp2
  all_goals
    go_ret
    refine ⟨?_, below4 _ _ _ _ _⟩
    go_light
    simp_all [fitB] <;> (intros; omega)

theorem guard27 : Yba.prog.eqGuardType Yba.prog.depth 27 = false := by kernel_rfl
theorem stood27 : Yba.prog.stoodInHeld 27 = false := by kernel_rfl

theorem eq27 (a b c a' b' c' : Int) (w : World) : (Op.equalIn 10000 27 (.agg #[.int .i64 a, .int .i64 b, .int .i64 c]) (.agg #[.int .i64 a', .int .i64 b', .int .i64 c'])).run Yba.prog w = .ok (decide (a = a') && decide (b = b') && decide (c = c')) w := by
  rw [run_equalIn_struct w 9999 27 _ _ (by simp [Program.fieldsOf, Yba.underlying27]) stood27]
  simp [go_sem, Program.fieldsOf, Yba.underlying27, Yba.underlying2, Yba.underlying3]
  by_cases h1 : a = a' <;> by_cases h2 : b = b' <;> by_cases h3 : c = c' <;> simp [h1, h2, h3]

theorem fits_no (b : Nat) (bs bw bn bt bh ln lh lm as_ aw an at_ ah slack th tn tl tm : Int) (w : World)
    (h5 : w.cell? ⟨b, 5, none⟩ = some (.int .i64 ln)) (h6 : w.cell? ⟨b, 6, none⟩ = some (.int .i64 lh)) (h7 : w.cell? ⟨b, 7, none⟩ = some (.int .i64 lm)) (hb : b < w.heap.size)
    (hl : ¬ (tn = ln ∧ tl = lh ∧ tm = lm)) :
    Calls Yba.prog 4 #[.pointer (some ⟨b, 0, none⟩), .agg #[.int .i64 as_, .int .i64 aw, .int .i64 an, .int .i64 at_, .int .i64 ah, .int .i64 slack, .int .i64 th, .int .i64 tn, .int .i64 tl, .int .i64 tm]] w fun e w' =>
      e = .returned (.bool (fitB bs bw bn bt bh ln lh lm as_ an at_ slack th tn tl tm)) ∧ Below w.heap.size w w' := by
  have hg := guard27
  have he : ∀ w, (Op.equalIn 10000 27 (.agg #[.int .i64 tn, .int .i64 tl, .int .i64 tm]) (.agg #[.int .i64 ln, .int .i64 lh, .int .i64 lm])).run Yba.prog w = .ok false w := by
    intro w
    rw [eq27]
    have : (decide (tn = ln) && decide (tl = lh) && decide (tm = lm)) = false := by
      simp; intro h1 h2 h3; exact hl ⟨h1, h2, h3⟩
    rw [this]
  have hf : fitB bs bw bn bt bh ln lh lm as_ an at_ slack th tn tl tm = false := by
    have : (decide (tn = ln) && decide (tl = lh) && decide (tm = lm)) = false := by
      simp; intro h1 h2 h3; exact hl ⟨h1, h2, h3⟩
    unfold fitB
    rw [this]; simp
  rw [hf]
  clear hf hl
  go_enter Yba.func4, Yba.ntmps4
  go_wp2
  go_quiet (fail)
  go_wp2
  go_ret
  exact ⟨rfl, by repeat (first | exact below_one _ _ | refine below_dn ?_ _)⟩

set_option maxHeartbeats 1000000 in
theorem fits_yes (b : Nat) (bs bw bn bt bh ln lh lm as_ aw an at_ ah slack th : Int) (w : World)
    (h0 : w.cell? ⟨b, 0, none⟩ = some (.int .i64 bs)) (h1 : w.cell? ⟨b, 1, none⟩ = some (.int .i64 bw)) (h2 : w.cell? ⟨b, 2, none⟩ = some (.int .i64 bn)) (h3 : w.cell? ⟨b, 3, none⟩ = some (.int .i64 bt)) (h4 : w.cell? ⟨b, 4, none⟩ = some (.int .i64 bh))
    (h5 : w.cell? ⟨b, 5, none⟩ = some (.int .i64 ln)) (h6 : w.cell? ⟨b, 6, none⟩ = some (.int .i64 lh)) (h7 : w.cell? ⟨b, 7, none⟩ = some (.int .i64 lm)) (hb : b < w.heap.size) :
    Calls Yba.prog 4 #[.pointer (some ⟨b, 0, none⟩), .agg #[.int .i64 as_, .int .i64 aw, .int .i64 an, .int .i64 at_, .int .i64 ah, .int .i64 slack, .int .i64 th, .int .i64 ln, .int .i64 lh, .int .i64 lm]] w fun e w' =>
      e = .returned (.bool (fitB bs bw bn bt bh ln lh lm as_ an at_ slack th ln lh lm)) ∧ Below w.heap.size w w' := by
  have hg := guard27
  have he : ∀ w, (Op.equalIn 10000 27 (.agg #[.int .i64 ln, .int .i64 lh, .int .i64 lm]) (.agg #[.int .i64 ln, .int .i64 lh, .int .i64 lm])).run Yba.prog w = .ok true w := by
    intro w
    rw [eq27]
    simp
  by_cases c1 : slack < wrap64 (wrap64 (bn - wrap64 (10 * bw)) - 100000)
  · go_enter Yba.func4, Yba.ntmps4
    go_wp2
    go_quiet (fail)
    go_wp2
    go_quiet (fail)
    go_wp2
    go_ret
    refine ⟨?_, by repeat (first | exact below_one _ _ | refine below_dn ?_ _)⟩
    go_light
    simp [fitB]; intros; omega
  by_cases c2 : wrap64 (wrap64 (10 * wrap64 (bs + as_)) + 1048576) < wrap64 (bt + at_)
  · go_enter Yba.func4, Yba.ntmps4
    go_wp2
    go_quiet (fail)
    go_wp2
    go_quiet (fail)
    go_wp2
    go_quiet (fail)
    go_wp2
    go_ret
    refine ⟨?_, by repeat (first | exact below_one _ _ | refine below_dn ?_ _)⟩
    go_light
    simp [fitB]; intros; omega
  by_cases c3 : 0 < ln
  · by_cases c4 : ln < wrap64 (bn + an)
    · go_enter Yba.func4, Yba.ntmps4
      go_wp2
      go_quiet (fail)
      go_wp2
      go_quiet (fail)
      go_wp2
      go_quiet (fail)
      go_wp2
      go_quiet (fail)
      go_wp2
      go_ret
      refine ⟨?_, by repeat (first | exact below_one _ _ | refine below_dn ?_ _)⟩
      go_light
      simp [fitB]; intros; omega
    by_cases c5 : 0 < lh
    · by_cases c6 : lh < wrap64 (bh + th)
      · go_enter Yba.func4, Yba.ntmps4
        go_wp2
        go_quiet (fail)
        go_wp2
        go_quiet (fail)
        go_wp2
        go_quiet (fail)
        go_wp2
        go_quiet (fail)
        go_wp2
        go_quiet (fail)
        go_wp2
        go_ret
        refine ⟨?_, by repeat (first | exact below_one _ _ | refine below_dn ?_ _)⟩
        go_light
        simp [fitB]; intros; omega
      · go_enter Yba.func4, Yba.ntmps4
        go_wp2
        go_quiet (fail)
        go_wp2
        go_quiet (fail)
        go_wp2
        go_quiet (fail)
        go_wp2
        go_quiet (fail)
        go_wp2
        go_quiet (fail)
        go_wp2
        go_ret
        refine ⟨?_, by repeat (first | exact below_one _ _ | refine below_dn ?_ _)⟩
        go_light
        simp [fitB]; omega
    · have d5 : decide (0 < lh) = false := by simpa using c5
      go_enter Yba.func4, Yba.ntmps4
      go_wp2
      go_quiet (fail)
      go_wp2
      go_quiet (fail)
      go_wp2
      go_quiet (fail)
      go_wp2
      go_quiet (fail)
      go_wp2
      go_quiet (fail)
      go_wp2
      go_ret
      refine ⟨?_, by repeat (first | exact below_one _ _ | refine below_dn ?_ _)⟩
      go_light
      simp [fitB]; omega
  · have d3 : decide (0 < ln) = false := by simpa using c3
    by_cases c5 : 0 < lh
    · by_cases c6 : lh < wrap64 (bh + th)
      · go_enter Yba.func4, Yba.ntmps4
        go_wp2
        go_quiet (fail)
        go_wp2
        go_quiet (fail)
        go_wp2
        go_quiet (fail)
        go_wp2
        go_quiet (fail)
        go_wp2
        go_quiet (fail)
        go_wp2
        go_ret
        refine ⟨?_, by repeat (first | exact below_one _ _ | refine below_dn ?_ _)⟩
        go_light
        simp [fitB]; intros; omega
      · go_enter Yba.func4, Yba.ntmps4
        go_wp2
        go_quiet (fail)
        go_wp2
        go_quiet (fail)
        go_wp2
        go_quiet (fail)
        go_wp2
        go_quiet (fail)
        go_wp2
        go_quiet (fail)
        go_wp2
        go_ret
        refine ⟨?_, by repeat (first | exact below_one _ _ | refine below_dn ?_ _)⟩
        go_light
        simp [fitB]; omega
    · have d5 : decide (0 < lh) = false := by simpa using c5
      go_enter Yba.func4, Yba.ntmps4
      go_wp2
      go_quiet (fail)
      go_wp2
      go_quiet (fail)
      go_wp2
      go_quiet (fail)
      go_wp2
      go_quiet (fail)
      go_wp2
      go_quiet (fail)
      go_wp2
      go_ret
      refine ⟨?_, by repeat (first | exact below_one _ _ | refine below_dn ?_ _)⟩
      go_light
      simp [fitB]; omega

end Go.Proofs.Ybulkdvdw
