import Derived.Test.YbulkdvdwLaw
import Derived.ProofKit
import Derived.ChangeOld
import Derived.Below
namespace Go.Proofs.Ybulkdvdw
open Go.ChangeShapes Go.WideShapes Go.ChangeAt Go.RowKit

theorem Yba.own : ownKnob Yba.prog.godebug = none := by kernel_rfl
theorem Yba.laidOut : laidOutB Yba.prog = true := by kernel_rfl
theorem Yba.cells23 : Yba.prog.cellsOf 23 = 24 := by kernel_rfl
theorem Yba.cells2 : Yba.prog.cellsOf 2 = 1 := by kernel_rfl
theorem Yba.cells3 : Yba.prog.cellsOf 3 = 1 := by kernel_rfl
theorem Yba.cells5 : Yba.prog.cellsOf 5 = 1 := by kernel_rfl

theorem array24 {cs : Array Value} (h : cs.size = 24) : ∃ c0 c1 c2 c3 c4 c5 c6 c7 c8 c9 c10 c11 c12 c13 c14 c15 c16 c17 c18 c19 c20 c21 c22 c23, cs = #[c0, c1, c2, c3, c4, c5, c6, c7, c8, c9, c10, c11, c12, c13, c14, c15, c16, c17, c18, c19, c20, c21, c22, c23] := by
  obtain ⟨l⟩ := cs
  match l, h with
  | [c0, c1, c2, c3, c4, c5, c6, c7, c8, c9, c10, c11, c12, c13, c14, c15, c16, c17, c18, c19, c20, c21, c22, c23], _ => exact ⟨c0, c1, c2, c3, c4, c5, c6, c7, c8, c9, c10, c11, c12, c13, c14, c15, c16, c17, c18, c19, c20, c21, c22, c23, rfl⟩

section
variable {H : Type} {enc : TypeId × Value → H} {w : World} {base : Nat} {spare : Nat → Bool} {held : Bool}

theorem open24 {v : Value} {d : DataW H} {p : List MemPlace} {r : Reach} {b0 : Nat} (ho : Value.okWide Yba.prog w r b0 23 v) (h : DataW.Trod enc Yba.prog w base spare held 23 v d p) :
    ∃ x0 x1 x2 x3 x4 x5 x6 x7 x8 x9 x10 x11 x12 x13 x14 x15 x16 x17 x18 x19 x20 x21 x22 x23 : Int, v = .agg #[.int .i64 x0, .int .i64 x1, .int .i64 x2, .int .i64 x3, .int .i64 x4, .int .i64 x5, .int .i64 x6, .int .i64 x7, .int .i64 x8, .int .i64 x9, .int .i64 x10, .int .i64 x11, .int .i64 x12, .int .i64 x13, .int .i64 x14, .int .i64 x15, .int .i64 x16, .int .i64 x17, .int .i64 x18, .int .i64 x19, .int .i64 x20, .int .i64 x21, .int .i64 x22, .int .u8 x23] ∧ 0 ≤ x23 ∧ x23 ≤ 255 := by
  obtain ⟨cs, rfl, hsz⟩ := okWide_struct Yba.underlying23 ho
  rw [Yba.cells23] at hsz
  obtain ⟨c0, c1, c2, c3, c4, c5, c6, c7, c8, c9, c10, c11, c12, c13, c14, c15, c16, c17, c18, c19, c20, c21, c22, c23, rfl⟩ := array24 hsz
  obtain ⟨fuel, hf⟩ := h
  obtain ⟨xs, n, _, _, _, hl, hfs⟩ := DataW.trod_struct Yba.underlying23 hf
  have y0 := hfs 0 _ rfl
  rw [List.getElem?_eq_getElem (by rw [hl]; decide)] at y0
  obtain ⟨x0, e0, _, w0⟩ := DataW.trod_int Yba.underlying2 y0
  clear y0
  simp [Value.cells, Yba.cells2] at e0
  subst e0
  have y1 := hfs 1 _ rfl
  rw [List.getElem?_eq_getElem (by rw [hl]; decide)] at y1
  obtain ⟨x1, e1, _, w1⟩ := DataW.trod_int Yba.underlying3 y1
  clear y1
  simp [Value.cells, Yba.cells3] at e1
  subst e1
  have y2 := hfs 2 _ rfl
  rw [List.getElem?_eq_getElem (by rw [hl]; decide)] at y2
  obtain ⟨x2, e2, _, w2⟩ := DataW.trod_int Yba.underlying3 y2
  clear y2
  simp [Value.cells, Yba.cells3] at e2
  subst e2
  have y3 := hfs 3 _ rfl
  rw [List.getElem?_eq_getElem (by rw [hl]; decide)] at y3
  obtain ⟨x3, e3, _, w3⟩ := DataW.trod_int Yba.underlying2 y3
  clear y3
  simp [Value.cells, Yba.cells2] at e3
  subst e3
  have y4 := hfs 4 _ rfl
  rw [List.getElem?_eq_getElem (by rw [hl]; decide)] at y4
  obtain ⟨x4, e4, _, w4⟩ := DataW.trod_int Yba.underlying2 y4
  clear y4
  simp [Value.cells, Yba.cells2] at e4
  subst e4
  have y5 := hfs 5 _ rfl
  rw [List.getElem?_eq_getElem (by rw [hl]; decide)] at y5
  obtain ⟨x5, e5, _, w5⟩ := DataW.trod_int Yba.underlying3 y5
  clear y5
  simp [Value.cells, Yba.cells3] at e5
  subst e5
  have y6 := hfs 6 _ rfl
  rw [List.getElem?_eq_getElem (by rw [hl]; decide)] at y6
  obtain ⟨x6, e6, _, w6⟩ := DataW.trod_int Yba.underlying2 y6
  clear y6
  simp [Value.cells, Yba.cells2] at e6
  subst e6
  have y7 := hfs 7 _ rfl
  rw [List.getElem?_eq_getElem (by rw [hl]; decide)] at y7
  obtain ⟨x7, e7, _, w7⟩ := DataW.trod_int Yba.underlying3 y7
  clear y7
  simp [Value.cells, Yba.cells3] at e7
  subst e7
  have y8 := hfs 8 _ rfl
  rw [List.getElem?_eq_getElem (by rw [hl]; decide)] at y8
  obtain ⟨x8, e8, _, w8⟩ := DataW.trod_int Yba.underlying2 y8
  clear y8
  simp [Value.cells, Yba.cells2] at e8
  subst e8
  have y9 := hfs 9 _ rfl
  rw [List.getElem?_eq_getElem (by rw [hl]; decide)] at y9
  obtain ⟨x9, e9, _, w9⟩ := DataW.trod_int Yba.underlying3 y9
  clear y9
  simp [Value.cells, Yba.cells3] at e9
  subst e9
  have y10 := hfs 10 _ rfl
  rw [List.getElem?_eq_getElem (by rw [hl]; decide)] at y10
  obtain ⟨x10, e10, _, w10⟩ := DataW.trod_int Yba.underlying3 y10
  clear y10
  simp [Value.cells, Yba.cells3] at e10
  subst e10
  have y11 := hfs 11 _ rfl
  rw [List.getElem?_eq_getElem (by rw [hl]; decide)] at y11
  obtain ⟨x11, e11, _, w11⟩ := DataW.trod_int Yba.underlying2 y11
  clear y11
  simp [Value.cells, Yba.cells2] at e11
  subst e11
  have y12 := hfs 12 _ rfl
  rw [List.getElem?_eq_getElem (by rw [hl]; decide)] at y12
  obtain ⟨x12, e12, _, w12⟩ := DataW.trod_int Yba.underlying2 y12
  clear y12
  simp [Value.cells, Yba.cells2] at e12
  subst e12
  have y13 := hfs 13 _ rfl
  rw [List.getElem?_eq_getElem (by rw [hl]; decide)] at y13
  obtain ⟨x13, e13, _, w13⟩ := DataW.trod_int Yba.underlying2 y13
  clear y13
  simp [Value.cells, Yba.cells2] at e13
  subst e13
  have y14 := hfs 14 _ rfl
  rw [List.getElem?_eq_getElem (by rw [hl]; decide)] at y14
  obtain ⟨x14, e14, _, w14⟩ := DataW.trod_int Yba.underlying3 y14
  clear y14
  simp [Value.cells, Yba.cells3] at e14
  subst e14
  have y15 := hfs 15 _ rfl
  rw [List.getElem?_eq_getElem (by rw [hl]; decide)] at y15
  obtain ⟨x15, e15, _, w15⟩ := DataW.trod_int Yba.underlying3 y15
  clear y15
  simp [Value.cells, Yba.cells3] at e15
  subst e15
  have y16 := hfs 16 _ rfl
  rw [List.getElem?_eq_getElem (by rw [hl]; decide)] at y16
  obtain ⟨x16, e16, _, w16⟩ := DataW.trod_int Yba.underlying2 y16
  clear y16
  simp [Value.cells, Yba.cells2] at e16
  subst e16
  have y17 := hfs 17 _ rfl
  rw [List.getElem?_eq_getElem (by rw [hl]; decide)] at y17
  obtain ⟨x17, e17, _, w17⟩ := DataW.trod_int Yba.underlying2 y17
  clear y17
  simp [Value.cells, Yba.cells2] at e17
  subst e17
  have y18 := hfs 18 _ rfl
  rw [List.getElem?_eq_getElem (by rw [hl]; decide)] at y18
  obtain ⟨x18, e18, _, w18⟩ := DataW.trod_int Yba.underlying3 y18
  clear y18
  simp [Value.cells, Yba.cells3] at e18
  subst e18
  have y19 := hfs 19 _ rfl
  rw [List.getElem?_eq_getElem (by rw [hl]; decide)] at y19
  obtain ⟨x19, e19, _, w19⟩ := DataW.trod_int Yba.underlying2 y19
  clear y19
  simp [Value.cells, Yba.cells2] at e19
  subst e19
  have y20 := hfs 20 _ rfl
  rw [List.getElem?_eq_getElem (by rw [hl]; decide)] at y20
  obtain ⟨x20, e20, _, w20⟩ := DataW.trod_int Yba.underlying3 y20
  clear y20
  simp [Value.cells, Yba.cells3] at e20
  subst e20
  have y21 := hfs 21 _ rfl
  rw [List.getElem?_eq_getElem (by rw [hl]; decide)] at y21
  obtain ⟨x21, e21, _, w21⟩ := DataW.trod_int Yba.underlying2 y21
  clear y21
  simp [Value.cells, Yba.cells2] at e21
  subst e21
  have y22 := hfs 22 _ rfl
  rw [List.getElem?_eq_getElem (by rw [hl]; decide)] at y22
  obtain ⟨x22, e22, _, w22⟩ := DataW.trod_int Yba.underlying3 y22
  clear y22
  simp [Value.cells, Yba.cells3] at e22
  subst e22
  have y23 := hfs 23 _ rfl
  rw [List.getElem?_eq_getElem (by rw [hl]; decide)] at y23
  obtain ⟨x23, e23, _, w23⟩ := DataW.trod_int Yba.underlying5 y23
  clear y23
  simp [Value.cells, Yba.cells5] at e23
  subst e23
  refine ⟨x0, x1, x2, x3, x4, x5, x6, x7, x8, x9, x10, x11, x12, x13, x14, x15, x16, x17, x18, x19, x20, x21, x22, x23, rfl, ?_, ?_⟩
  · simp [Lit.wf, IntKind.min, IntKind.max, IntKind.signed, IntKind.bits] at w23; omega
  · simp [Lit.wf, IntKind.min, IntKind.max, IntKind.signed, IntKind.bits] at w23; omega
end

set_option maxRecDepth 100000 in
theorem lawC_lifted (os : Os) (started : os.Started) (H : Type) (enc : TypeId × Value → H) :
    ReturnsInHanded {} Yba.checked os 3 .any (Rows.lawS6093CWholeSpec.pre6 enc Yba.prog Yba.f3 Rows.lawS6093CWholeRow.domain false) (Rows.lawS6093CWholeSpec.post enc Yba.prog Yba.f3 false true false false) := by
  refine returnsInHanded_of_change (C := Yba.checked) Yba.own started (by kernel_rfl) Yba.func3
    (ChangeSpec.witness6 (enc := enc) (C := Yba.checked) false ⟨#[], #[.agg #[.int .i64 0, .int .i64 0, .int .i64 0, .int .i64 0, .int .i64 0, .int .i64 0, .int .i64 0, .int .i64 0, .int .i64 0, .int .i64 0, .int .i64 0, .int .i64 0, .int .i64 0, .int .i64 0, .int .i64 0, .int .i64 0, .int .i64 0, .int .i64 0, .int .i64 0, .int .i64 0, .int .i64 0, .int .i64 0, .int .i64 0, .int .u8 0]], []⟩ 8 (by kernel_rfl) (by kernel_rfl) (by kernel_rfl) (by kernel_rfl)) ?_
  intro W base args ds gs before hval0 hW hcnd _
  have hval : ∀ (j : Nat) t v, Yba.f3.params[j]? = some t → args[j]? = some v → Value.okWide Yba.prog W .any base t v := hval0
  have hW' := hW
  obtain ⟨p, q, hA0, hV, rfl, hfz, hnd⟩ := hW
  have hA : DataW.TrodAll enc Yba.prog W 0 (fun _ => true) true Yba.f3.params.toList args.toList ds p := hA0
  rw [Yba.params3] at hA hval
  obtain ⟨v0, d0, rfl, rfl, h0⟩ := trodAll_one hA
  obtain ⟨rfl, rfl⟩ := trodVars_none hV
  have k0 := h0
  have lt0 : ∀ x ∈ p, x.block < W.heap.size := by obtain ⟨m, hm⟩ := k0; exact DataW.trod_lt m _ _ _ hm
  obtain ⟨x0, x1, x2, x3, x4, x5, x6, x7, x8, x9, x10, x11, x12, x13, x14, x15, x16, x17, x18, x19, x20, x21, x22, x23, rfl, hs0, hs1⟩ := open24 (hval 0 23 v0 rfl rfl) h0
  clear hA0 hval0
  have hwalk := law_any x0 x1 x2 x3 x4 x5 x6 x7 x8 x9 x10 x11 x12 x13 x14 x15 x16 x17 x18 x19 x20 x21 x22 x23 hs0 hs1 W
  refine hwalk.mono fun e W' ⟨he, bel⟩ => ?_
  subst he
  exact ⟨_, rfl, _, _, _, [], _, [], hW', trodAll_mk1 (shut_bool Yba.underlying4 _), trodAll_mk1 (Below.trod Yba.laidOut (by kernel_rfl) (of_decide_eq_true (by kernel_rfl)) k0 bel lt0), rfl, bel.frame _, fun h => by cases h⟩

theorem lawS6093CWhole_holds : Rows.LawS6093CWholeSaid :=
  OpenClaim.holds_of_wide 3 Yba.f3 rfl rfl rfl rfl rfl rfl rfl ⟨rfl, rfl, rfl, rfl, rfl⟩ rfl rfl rfl rfl rfl (by kernel_rfl) Yba.func3 (by kernel_rfl)
    (of_decide_eq_true (by kernel_rfl)) (by unfold Func.isWrapper; first | (rw [if_pos (by decide +kernel)]; kernel_rfl) | (rw [if_neg (by decide +kernel)]; exact ⟨rfl, rfl⟩))
    (fun os started H enc _ => lawC_lifted os started H enc)
end Go.Proofs.Ybulkdvdw
