import Derived.Test.YbulkdvjuLawBMain
import Derived.Test.YbulkdvjuOpenB
namespace Go.Proofs.Ybulkdvju
open Go.ChangeShapes Go.WideShapes Go.ChangeAt Go.RowKit Go.Deep

namespace PB
theorem trodAll_eight {H : Type} {enc : TypeId × Value → H} {P : Program} {w : World} {base : Nat} {spare : Nat → Bool} {held : Bool} {t0 t1 t2 t3 t4 t5 t6 t7 : TypeId} {args : Array Value} {ds : List (DataW H)} {ps : List MemPlace} (h : DataW.TrodAll enc P w base spare held [t0, t1, t2, t3, t4, t5, t6, t7] args.toList ds ps) :
    ∃ v0 v1 v2 v3 v4 v5 v6 v7 d0 d1 d2 d3 d4 d5 d6 d7 p0 p1 p2 p3 p4 p5 p6 p7, args = #[v0, v1, v2, v3, v4, v5, v6, v7] ∧ ds = [d0, d1, d2, d3, d4, d5, d6, d7] ∧
      DataW.Trod enc P w base spare held t0 v0 d0 p0 ∧ DataW.Trod enc P w base spare held t1 v1 d1 p1 ∧ DataW.Trod enc P w base spare held t2 v2 d2 p2 ∧ DataW.Trod enc P w base spare held t3 v3 d3 p3 ∧
      DataW.Trod enc P w base spare held t4 v4 d4 p4 ∧ DataW.Trod enc P w base spare held t5 v5 d5 p5 ∧ DataW.Trod enc P w base spare held t6 v6 d6 p6 ∧ DataW.Trod enc P w base spare held t7 v7 d7 p7 := by
  obtain ⟨v0, r0, d0, s0, p0, q0, hargs, rfl, _, h0, h⟩ := trodAll_cons h
  obtain ⟨v1, r1, d1, s1, p1, q1, rfl, rfl, _, h1, h⟩ := trodAll_cons h
  obtain ⟨v2, r2, d2, s2, p2, q2, rfl, rfl, _, h2, h⟩ := trodAll_cons h
  obtain ⟨v3, r3, d3, s3, p3, q3, rfl, rfl, _, h3, h⟩ := trodAll_cons h
  obtain ⟨v4, r4, d4, s4, p4, q4, rfl, rfl, _, h4, h⟩ := trodAll_cons h
  obtain ⟨v5, r5, d5, s5, p5, q5, rfl, rfl, _, h5, h⟩ := trodAll_cons h
  obtain ⟨v6, r6, d6, s6, p6, q6, rfl, rfl, _, h6, h⟩ := trodAll_cons h
  obtain ⟨v7, r7, d7, s7, p7, q7, rfl, rfl, _, h7, h⟩ := trodAll_cons h
  obtain ⟨rfl, rfl, _⟩ := trodAll_nil h
  exact ⟨v0, v1, v2, v3, v4, v5, v6, v7, d0, d1, d2, d3, d4, d5, d6, d7, p0, p1, p2, p3, p4, p5, p6, p7, by cases args; simp_all, rfl, h0, h1, h2, h3, h4, h5, h6, h7⟩

set_option maxRecDepth 100000 in
/-- The walk, whatever slices came in. -/
theorem read (cJ cC : Int) (cH : Bool) (cT : Nat) (nano wt : Int) (ta pa : Option Addr) (tn tc pn pc tb toff pb poff : Nat) (J1 C1 : Nat → Int) (T1 M1 : Nat → Nat) (J2 C2 : Nat → Int) (T2 M2 : Nat → Nat) (w : World)
    (hj0 : 0 ≤ cJ) (hj1 : cJ ≤ 255) (hc0 : 0 ≤ cC) (hc1 : cC ≤ 255) (h1 : tn ≤ 140737488351232) (h2 : pn ≤ 140737488351232) (I1 : InE ta tn tb toff J1 C1 T1 M1 w) (I2 : InE pa pn pb poff J2 C2 T2 M2 w) :
    Calls Yba.prog 3 #[.int .u8 cJ, .bool cH, .int .u8 cC, .float .f64 cT, .int .i64 nano, .int .i64 wt, .slice ta tn tc, .slice pa pn pc] w fun e w' => e = .returned (.bool true) ∧ Below w.heap.size w w' := by
  by_cases hsum : 65536 < tn + pn
  · exact lawB_many cJ cC cH cT nano wt ta pa tn tc pn pc w h1 h2 hsum
  · exact lawB_main cJ cC cH cT nano wt ta pa tn tc pn pc tb toff pb poff J1 C1 T1 M1 J2 C2 T2 M2 w hj0 hj1 hc0 hc1 (by omega) I1 I2

set_option maxRecDepth 100000 in
theorem lifted (os : Os) (started : os.Started) (H : Type) (enc : TypeId × Value → H) :
    ReturnsInHanded {} Yba.checked os 3 .any (Rows.lawS6104BWholeSpec.pre6 enc Yba.prog Yba.f3 Rows.lawS6104BWholeRow.domain false) (Rows.lawS6104BWholeSpec.post enc Yba.prog Yba.f3 false true false false) := by
  refine returnsInHanded_of_change_sized (C := Yba.checked) own started (by kernel_rfl) Yba.func3
    (ChangeSpec.witness6 (enc := enc) (C := Yba.checked) false ⟨#[], #[.int .u8 0, .bool false, .int .u8 0, .float .f64 0, .int .i64 0, .int .i64 0, .slice none 0 0, .slice none 0 0], []⟩ 8 (by kernel_rfl) (by kernel_rfl) (by kernel_rfl) (by kernel_rfl)) ?_
  intro W base args ds gs before hval0 hW hcnd hsz0 _
  have hval : ∀ (j : Nat) t v, Yba.f3.params[j]? = some t → args[j]? = some v → Value.okWide Yba.prog W .any base t v := hval0
  have hsz : (DataW.weightsEach Yba.prog (Yba.f3.params.toList ++ Rows.lawS6104BWholeSpec.plain.varTypes Yba.prog) (ds ++ gs)).all (· ≤ reachBytes) = true := hsz0
  have hW' := hW
  obtain ⟨p, q, hA0, hV, rfl, hfz, hnd⟩ := hW
  have hA : DataW.TrodAll enc Yba.prog W 0 (fun _ => true) true Yba.f3.params.toList args.toList ds p := hA0
  rw [Yba.params3] at hA hval hsz
  obtain ⟨v0, v1, v2, v3, v4, v5, v6, v7, d0, d1, d2, d3, d4, d5, d6, d7, p0, p1, p2, p3, p4, p5, p6, p7, rfl, rfl, h0, h1, h2, h3, h4, h5, h6, h7⟩ := trodAll_eight hA
  obtain ⟨rfl, rfl⟩ := trodVars_none hV
  have k6 := h6
  have k7 := h7
  have lt6 : ∀ x ∈ p6, x.block < W.heap.size := by obtain ⟨m, hm⟩ := k6; exact DataW.trod_lt m _ _ _ hm
  have lt7 : ∀ x ∈ p7, x.block < W.heap.size := by obtain ⟨m, hm⟩ := k7; exact DataW.trod_lt m _ _ _ hm
  obtain ⟨cJ, rfl, rfl, rfl, w0⟩ := open_int Yba.underlying5 (hval 0 5 v0 rfl rfl) h0
  obtain ⟨cH, rfl, rfl, rfl⟩ := open_bool Yba.underlying4 (hval 1 4 v1 rfl rfl) h1
  obtain ⟨cC, rfl, rfl, rfl, w2⟩ := open_int Yba.underlying5 (hval 2 5 v2 rfl rfl) h2
  obtain ⟨cT, rfl, rfl, rfl, w3⟩ := open_float Yba.underlying22 (hval 3 22 v3 rfl rfl) h3
  obtain ⟨nano, rfl, rfl, rfl, w4⟩ := open_int Yba.underlying2 (hval 4 2 v4 rfl rfl) h4
  obtain ⟨wt, rfl, rfl, rfl, w5⟩ := open_int Yba.underlying3 (hval 5 3 v5 rfl rfl) h5
  have b0 := w0
  have b2 := w2
  simp [Lit.wf, IntKind.min, IntKind.max, IntKind.signed, IntKind.bits] at b0 b2
  have hw6 : ∀ k ∈ d6.weights Yba.prog 23, k ≤ 140737488351232 := fun k hk => of_decide_eq_true (List.all_eq_true.1 hsz k (DataW.weights_mem_each (j := 6) (t := 23) (d := d6) rfl rfl k hk))
  have hw7 : ∀ k ∈ d7.weights Yba.prog 23, k ≤ 140737488351232 := fun k hk => of_decide_eq_true (List.all_eq_true.1 hsz k (DataW.weights_mem_each (j := 7) (t := 23) (d := d7) rfl rfl k hk))
  obtain ⟨ta, tn, tc, tb, toff, J1, C1, T1, M1, rfl, ht, I1⟩ := entries_open v6 d6 p6 W (hval 6 23 v6 rfl rfl) h6 hw6
  obtain ⟨pa, pn, pc, pb, poff, J2, C2, T2, M2, rfl, hp, I2⟩ := entries_open v7 d7 p7 W (hval 7 23 v7 rfl rfl) h7 hw7
  clear hA0 hval0 hsz0 hsz
  refine (read cJ cC cH cT nano wt ta pa tn tc pn pc tb toff pb poff J1 C1 T1 M1 J2 C2 T2 M2 W (by omega) (by omega) (by omega) (by omega) ht hp I1 I2).mono fun e W' ⟨he, bel⟩ => ?_
  subst he
  exact ⟨_, rfl, _, _, _, [], _, [], hW', trodAll_mk1 (shut_bool Yba.underlying4 _), trodAll_cons_mk (shut_int Yba.underlying5 w0) (trodAll_cons_mk (shut_bool Yba.underlying4 _) (trodAll_cons_mk (shut_int Yba.underlying5 w2) (trodAll_cons_mk (shut_float Yba.underlying22 w3) (trodAll_cons_mk (shut_int Yba.underlying2 w4) (trodAll_cons_mk (shut_int Yba.underlying3 w5)
    (trodAll_mk2 (Below.trod laidOut (by kernel_rfl) (of_decide_eq_true (by kernel_rfl)) k6 bel lt6) (Below.trod laidOut (by kernel_rfl) (of_decide_eq_true (by kernel_rfl)) k7 bel lt7))))))), rfl, bel.frame _, fun h => by cases h⟩
end PB

theorem lawS6104BWhole_holds : Rows.LawS6104BWholeSaid :=
  OpenClaim.holds_of_wide 3 Yba.f3 rfl rfl rfl rfl rfl rfl rfl ⟨rfl, rfl, rfl, rfl, rfl⟩ rfl rfl rfl rfl rfl (by kernel_rfl) Yba.func3 (by kernel_rfl)
    (of_decide_eq_true (by kernel_rfl)) (by unfold Func.isWrapper; first | (rw [if_pos (by decide +kernel)]; kernel_rfl) | (rw [if_neg (by decide +kernel)]; exact ⟨rfl, rfl⟩))
    (fun os started H enc _ => PB.lifted os started H enc)
end Go.Proofs.Ybulkdvju
