import Derived.Test.YbulkdvdwModel
namespace Go.Proofs.Ybulkdvdw
open Go.RowKit

theorem fits_any (b : Nat) (bs bw bn bt bh ln lh lm as_ aw an at_ ah slack th tn tl tm : Int) (w : World)
    (h0 : w.cell? ⟨b, 0, none⟩ = some (.int .i64 bs)) (h1 : w.cell? ⟨b, 1, none⟩ = some (.int .i64 bw)) (h2 : w.cell? ⟨b, 2, none⟩ = some (.int .i64 bn)) (h3 : w.cell? ⟨b, 3, none⟩ = some (.int .i64 bt)) (h4 : w.cell? ⟨b, 4, none⟩ = some (.int .i64 bh))
    (h5 : w.cell? ⟨b, 5, none⟩ = some (.int .i64 ln)) (h6 : w.cell? ⟨b, 6, none⟩ = some (.int .i64 lh)) (h7 : w.cell? ⟨b, 7, none⟩ = some (.int .i64 lm)) (hb : b < w.heap.size) :
    Calls Yba.prog 4 #[.pointer (some ⟨b, 0, none⟩), .agg #[.int .i64 as_, .int .i64 aw, .int .i64 an, .int .i64 at_, .int .i64 ah, .int .i64 slack, .int .i64 th, .int .i64 tn, .int .i64 tl, .int .i64 tm]] w fun e w' =>
      e = .returned (.bool (fitB bs bw bn bt bh ln lh lm as_ an at_ slack th tn tl tm)) ∧ Below w.heap.size w w' := by
  by_cases hl : tn = ln ∧ tl = lh ∧ tm = lm
  · obtain ⟨rfl, rfl, rfl⟩ := hl
    exact fits_yes b bs bw bn bt bh tn tl tm as_ aw an at_ ah slack th w h0 h1 h2 h3 h4 h5 h6 h7 hb
  · exact fits_no b bs bw bn bt bh ln lh lm as_ aw an at_ ah slack th tn tl tm w h5 h6 h7 hb hl

theorem bcell {W w1 : World} (hb : Below W.heap.size W w1) : (∀ b o, b < W.heap.size → w1.cell? ⟨b, o, none⟩ = W.cell? ⟨b, o, none⟩) ∧ (∀ b o, b < W.heap.size → w1.frozen? ⟨b, o, none⟩ = W.frozen? ⟨b, o, none⟩) :=
  ⟨fun b o h => hb.cell (p := ⟨b, o, none⟩) h, fun b o h => hb.frozen (p := ⟨b, o, none⟩) h⟩

theorem guard25 : Yba.prog.eqGuardType Yba.prog.depth 25 = false := by kernel_rfl
theorem stood25 : Yba.prog.stoodInHeld 25 = false := by kernel_rfl
theorem eq25 (a b c d e : Int) (w : World) : (Op.equalIn 10000 25 (.agg #[.int .i64 a, .int .i64 b, .int .i64 c, .int .i64 d, .int .i64 e]) (.agg #[.int .i64 a, .int .i64 b, .int .i64 c, .int .i64 d, .int .i64 e])).run Yba.prog w = .ok true w := by
  rw [run_equalIn_struct w 9999 25 _ _ (by simp [Program.fieldsOf, Yba.underlying25]) stood25]
  simp [go_sem, Program.fieldsOf, Yba.underlying25, Yba.underlying2, Yba.underlying3]
theorem eq27_same (a b c : Int) (w : World) : (Op.equalIn 10000 27 (.agg #[.int .i64 a, .int .i64 b, .int .i64 c]) (.agg #[.int .i64 a, .int .i64 b, .int .i64 c])).run Yba.prog w = .ok true w := by
  rw [eq27]; simp

set_option maxHeartbeats 1000000 in
theorem law_even (bs bw bn bt bh ln lh lm fs fw fn ft fh as_ aw an at_ ah slack th tn tl tm sel : Int) (hs0 : 0 ≤ sel) (hs1 : sel ≤ 255) (hz : sel % 2 = 0) (w : World) :
    Calls Yba.prog 3 #[.agg #[.int .i64 bs, .int .i64 bw, .int .i64 bn, .int .i64 bt, .int .i64 bh, .int .i64 ln, .int .i64 lh, .int .i64 lm, .int .i64 fs, .int .i64 fw, .int .i64 fn, .int .i64 ft, .int .i64 fh,
      .int .i64 as_, .int .i64 aw, .int .i64 an, .int .i64 at_, .int .i64 ah, .int .i64 slack, .int .i64 th, .int .i64 tn, .int .i64 tl, .int .i64 tm, .int .u8 sel]] w fun e w' => e = .returned (.bool true) ∧ Below w.heap.size w w' := by
  have g25 := guard25
  have g27 := guard27
  have e25 := eq25
  have e27 := eq27_same
  go_enter Yba.func3, Yba.ntmps3
  go_wp2_with fail
  refine (fits_any (w.heap.size + 1 + 1 + 1 + 1 + 1 + 1) bs bw bn bt bh ln lh lm as_ aw an at_ ah slack th ln lh lm _ ?_ ?_ ?_ ?_ ?_ ?_ ?_ ?_ ?_).mono ?_
  all_goals try (simp [go_sem]; done)
  rintro e w1 ⟨rfl, hb1⟩
  obtain ⟨hc1, hf1⟩ := bcell hb1
  go_wp2_with fail
  refine (model_any bs bw bn bt bh ln lh lm as_ aw an at_ ah slack th ln lh lm _).mono ?_
  rintro e w2 ⟨rfl, hb2⟩
  obtain ⟨hc2, hf2⟩ := bcell hb2
  have hz1 : w.heap.size + 8 ≤ w1.heap.size := by have := hb1.size; simp at this; omega
  have k1 : ∀ o, w2.cell? ⟨w.heap.size + 1, o, none⟩ = w1.cell? ⟨w.heap.size + 1, o, none⟩ := fun o => hc2 _ _ (by omega)
  have k2 : ∀ o, w2.cell? ⟨w.heap.size + 1 + 1, o, none⟩ = w1.cell? ⟨w.heap.size + 1 + 1, o, none⟩ := fun o => hc2 _ _ (by omega)
  have k3 : ∀ o, w2.cell? ⟨w.heap.size + 1 + 1 + 1, o, none⟩ = w1.cell? ⟨w.heap.size + 1 + 1 + 1, o, none⟩ := fun o => hc2 _ _ (by omega)
  have k6 : ∀ o, w2.cell? ⟨w.heap.size + 1 + 1 + 1 + 1 + 1 + 1, o, none⟩ = w1.cell? ⟨w.heap.size + 1 + 1 + 1 + 1 + 1 + 1, o, none⟩ := fun o => hc2 _ _ (by omega)
  have hB : Below w.heap.size w w2 := (((((((((Below.refl w.heap.size w).alloc (Nat.le_refl _) _).alloc (by simp) _).alloc (by simp; omega) _).alloc (by simp; omega) _).alloc (by simp; omega) _).alloc (by simp; omega) _).alloc (by simp; omega) _).alloc (by simp; omega) _).trans ((hb1.mono (by simp; omega)).trans (hb2.mono (by omega)))
  clear hb1 hb2 hc2 hf2 hf1 hz1
  go_wp2
  go_quiet (fail)
  go_wp2
  go_ret
  exact ⟨rfl, below_dn hB _⟩

set_option maxHeartbeats 1000000 in
theorem law_odd (bs bw bn bt bh ln lh lm fs fw fn ft fh as_ aw an at_ ah slack th tn tl tm sel : Int) (hs0 : 0 ≤ sel) (hs1 : sel ≤ 255) (hz : sel % 2 = 1) (w : World) :
    Calls Yba.prog 3 #[.agg #[.int .i64 bs, .int .i64 bw, .int .i64 bn, .int .i64 bt, .int .i64 bh, .int .i64 ln, .int .i64 lh, .int .i64 lm, .int .i64 fs, .int .i64 fw, .int .i64 fn, .int .i64 ft, .int .i64 fh,
      .int .i64 as_, .int .i64 aw, .int .i64 an, .int .i64 at_, .int .i64 ah, .int .i64 slack, .int .i64 th, .int .i64 tn, .int .i64 tl, .int .i64 tm, .int .u8 sel]] w fun e w' => e = .returned (.bool true) ∧ Below w.heap.size w w' := by
  have g25 := guard25
  have g27 := guard27
  have e25 := eq25
  have e27 := eq27_same
  go_enter Yba.func3, Yba.ntmps3
  go_wp2_with fail
  refine (fits_any (w.heap.size + 1 + 1 + 1 + 1 + 1 + 1) bs bw bn bt bh ln lh lm as_ aw an at_ ah slack th tn tl tm _ ?_ ?_ ?_ ?_ ?_ ?_ ?_ ?_ ?_).mono ?_
  all_goals try (simp [go_sem]; done)
  rintro e w1 ⟨rfl, hb1⟩
  obtain ⟨hc1, hf1⟩ := bcell hb1
  go_wp2_with fail
  refine (model_any bs bw bn bt bh ln lh lm as_ aw an at_ ah slack th tn tl tm _).mono ?_
  rintro e w2 ⟨rfl, hb2⟩
  obtain ⟨hc2, hf2⟩ := bcell hb2
  have hz1 : w.heap.size + 8 ≤ w1.heap.size := by have := hb1.size; simp at this; omega
  have k1 : ∀ o, w2.cell? ⟨w.heap.size + 1, o, none⟩ = w1.cell? ⟨w.heap.size + 1, o, none⟩ := fun o => hc2 _ _ (by omega)
  have k2 : ∀ o, w2.cell? ⟨w.heap.size + 1 + 1, o, none⟩ = w1.cell? ⟨w.heap.size + 1 + 1, o, none⟩ := fun o => hc2 _ _ (by omega)
  have k3 : ∀ o, w2.cell? ⟨w.heap.size + 1 + 1 + 1, o, none⟩ = w1.cell? ⟨w.heap.size + 1 + 1 + 1, o, none⟩ := fun o => hc2 _ _ (by omega)
  have k6 : ∀ o, w2.cell? ⟨w.heap.size + 1 + 1 + 1 + 1 + 1 + 1, o, none⟩ = w1.cell? ⟨w.heap.size + 1 + 1 + 1 + 1 + 1 + 1, o, none⟩ := fun o => hc2 _ _ (by omega)
  have hB : Below w.heap.size w w2 := (((((((((Below.refl w.heap.size w).alloc (Nat.le_refl _) _).alloc (by simp) _).alloc (by simp; omega) _).alloc (by simp; omega) _).alloc (by simp; omega) _).alloc (by simp; omega) _).alloc (by simp; omega) _).alloc (by simp; omega) _).trans ((hb1.mono (by simp; omega)).trans (hb2.mono (by omega)))
  clear hb1 hb2 hc2 hf2 hf1 hz1
  go_wp2
  go_quiet (fail)
  go_wp2
  go_ret
  exact ⟨rfl, below_dn hB _⟩

theorem law_any (bs bw bn bt bh ln lh lm fs fw fn ft fh as_ aw an at_ ah slack th tn tl tm sel : Int) (hs0 : 0 ≤ sel) (hs1 : sel ≤ 255) (w : World) :
    Calls Yba.prog 3 #[.agg #[.int .i64 bs, .int .i64 bw, .int .i64 bn, .int .i64 bt, .int .i64 bh, .int .i64 ln, .int .i64 lh, .int .i64 lm, .int .i64 fs, .int .i64 fw, .int .i64 fn, .int .i64 ft, .int .i64 fh,
      .int .i64 as_, .int .i64 aw, .int .i64 an, .int .i64 at_, .int .i64 ah, .int .i64 slack, .int .i64 th, .int .i64 tn, .int .i64 tl, .int .i64 tm, .int .u8 sel]] w fun e w' => e = .returned (.bool true) ∧ Below w.heap.size w w' := by
  by_cases hz : sel % 2 = 0
  · exact law_even bs bw bn bt bh ln lh lm fs fw fn ft fh as_ aw an at_ ah slack th tn tl tm sel hs0 hs1 hz w
  · exact law_odd bs bw bn bt bh ln lh lm fs fw fn ft fh as_ aw an at_ ah slack th tn tl tm sel hs0 hs1 (by omega) w

end Go.Proofs.Ybulkdvdw
