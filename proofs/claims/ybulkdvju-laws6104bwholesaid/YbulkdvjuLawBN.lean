import Derived.Test.YbulkdvjuFinB
namespace Go.Proofs.Ybulkdvju
open Go.RowKit
attribute [local go_sem] run_store_float

set_option maxRecDepth 100000 in
set_option maxHeartbeats 40000000 in
theorem lawB_N (cJ cC : Int) (cT : Nat) (nano wt : Int) (ta pa : Option Addr) (tn tc pn pc tb toff pb poff : Nat) (J1 C1 : Nat → Int) (T1 M1 : Nat → Nat) (J2 C2 : Nat → Int) (T2 M2 : Nat → Nat) (w : World)
    (hj0 : 0 ≤ cJ) (hj1 : cJ ≤ 255) (hc0 : 0 ≤ cC) (hc1 : cC ≤ 255) (hsum : tn + pn ≤ 65536) (hnone : ∀ j, j < tn → ¬ Mq J1 C1 cJ cC j) (I1 : InE ta tn tb toff J1 C1 T1 M1 w) (I2 : InE pa pn pb poff J2 C2 T2 M2 w) :
    Calls Yba.prog 3 #[.int .u8 cJ, .bool true, .int .u8 cC, .float .f64 cT, .int .i64 nano, .int .i64 wt, .slice ta tn tc, .slice pa pn pc] w fun e w' => e = .returned (.bool true) ∧ Below w.heap.size w w' := by
  have hs1 : (tn : Int) + (pn : Int) ≤ 9223372036854775807 := by omega
  have hd : decide ((65536 : Int) < (tn : Int) + (pn : Int)) = false := by simp; omega
  go_enter Yba.func3, Yba.ntmps3
  go_wp2_with fail
  refine (replayer_any _ _).mono ?_
  rintro e w0 ⟨hb, v1, v2, v3, v4, v5, v6, v7, v8, v9, rfl, hb1, hb2, hH0, HB0⟩
  obtain ⟨V, hV0, HS0⟩ := st_start (NM1 := fun i => nmA (J1 i)) (CT1 := fun i => ctA (C1 i)) (T1 := T1) (MX1 := M1) (NM2 := fun i => nmA (J2 i)) (CT2 := fun i => ctA (C2 i)) (T2 := T2) (MX2 := M2) hb1 hH0 HB0
  clear hH0 HB0
  obtain ⟨i0, hi0, hz0, hz1, hz2⟩ := info_parts info50
  go_wp2
  go_loopw [18] (fun i wr => ∃ (k : Nat) (tv : Value) (CB : Nat → Nat), k ≤ tn ∧ i = .int .i64 k ∧ St hb w.heap.size w.heap.size V (fun i => nmA (J1 i)) (fun i => ctA (C1 i)) T1 M1 (fun i => nmA (J2 i)) (fun i => ctA (C2 i)) T2 M2 w tv k CB (.slice none 0 0) 0 (fun _ => 0) wr) (fun i _ => tn - (intOf i).toNat)
  case atStart => exact ⟨0, _, _, Nat.zero_le _, rfl, HS0⟩
  case round =>
    clear HS0
    obtain ⟨k, tv, CB, hk1, rfl, HS⟩ := hrel
    by_cases hlt : k < tn
    · obtain ⟨rfl, hbl⟩ := I1.ad (by omega)
      have hB := HS.bel.size
      have I1' := I1.keep HS.bel
      have c0 := I1'.c0 k hlt
      have c1 := I1'.c1 k hlt
      have c2 := I1'.c2 k hlt
      have c3 := I1'.c3 k hlt
      obtain ⟨r0, r1⟩ := I1'.rj k hlt
      obtain ⟨r2, r3⟩ := I1'.rc k hlt
      have e10 : wr.cell? ⟨hb, 10, none⟩ = some tv := Joins.cell_of_block HS.hH 10
      have hhl := heap_lt HS.hH
      have hli : (k : Int) < (tn : Int) := by omega
      have HSH := (show Hid (St hb w.heap.size w.heap.size V (fun i => nmA (J1 i)) (fun i => ctA (C1 i)) T1 M1 (fun i => nmA (J2 i)) (fun i => ctA (C2 i)) T2 M2 w tv k CB (.slice none 0 0) 0 (fun _ => 0) wr) from HS)
      clear HS I1'
      go_wp2_with fail
      go_region_law (first
        | (go_simp; go_at_call 6; refine (build_any _ _ _ _ _ r0 r1 r2 r3).mono ?_; rintro e w2 ⟨cb, rfl, hcb1, hcb2, hcb3, hbel⟩; have hbel' := below_of_drew hbel; have e10' : w2.cell? ⟨hb, 10, none⟩ = some tv := Joins.cell_of_block (HSH.out.keep hbel' hB).hH 10; have hhl' : hb < w2.heap.size := heap_lt (HSH.out.keep hbel' hB).hH)
        | (refine step_append_lies _ rfl (.tmp 51) (.tmp 57) 31 rfl w.heap.size 50 i0 _ 15 136 Yba.underlying31 hi0 hz0 hz1 hz2 rfl (by decide) tv k (tks (fun i => nmA (J1 i)) T1 CB M1 k) (by simp [Act.eval]) ((HSH.out.keep hbel' hB).own1.alloc _) ⟨w2.heap.size, 0, none⟩ 1 1 (tkL (nmA (J1 k)) (T1 k) (some ⟨cb, 0, none⟩) (M1 k) none) (by simp [Act.eval]) rfl (World.news_of_block (heap_alloc_last0 _ _ _ rfl)) (tkL_one _ _ _ _ _) (by decide) (by unfold maxLen; omega) (by omega) (by have := hbel'.size; simp; omega) (w2.heap.size + 1) (by simp) ?_; intro g' cap' w4 hown hgrow hat hglt; obtain ⟨⟨e4, e5⟩, f4, f5⟩ := after_app1 (HSH.out.keep hbel' hB).hH (own_ne (HSH.out.keep hbel' hB).own1 (HSH.out.keep hbel' hB).hH (by decide)) hgrow))
      all_goals
        go_wp2
        obtain ⟨CB', HS'⟩ := st_push1 HSH.out hB hbel' hcb3 hown hgrow hat
        exact ⟨⟨k + 1, _, CB', by omega, by go_num, HS'⟩, by simp [intOf]; omega⟩
    · obtain rfl : tn = k := by omega
      obtain ⟨W1, rfl⟩ : ∃ x, x = wr := ⟨_, rfl⟩
      go_wp2
      go_loopw [19] (fun i wr => ∃ (k : Nat) (uv : Value) (CB2 : Nat → Nat), k ≤ pn ∧ i = .int .i64 k ∧ St hb w.heap.size w.heap.size V (fun i => nmA (J1 i)) (fun i => ctA (C1 i)) T1 M1 (fun i => nmA (J2 i)) (fun i => ctA (C2 i)) T2 M2 w tv tn CB uv k CB2 wr) (fun i _ => pn - (intOf i).toNat)
      case atStart => exact ⟨0, _, _, Nat.zero_le _, rfl, HS⟩
      case round =>
        clear HS
        obtain ⟨k, uv, CB2, hk2, rfl, HS⟩ := hrel
        by_cases hlt2 : k < pn
        · obtain ⟨rfl, hbl⟩ := I2.ad (by omega)
          have hB := HS.bel.size
          have I2' := I2.keep HS.bel
          have c0 := I2'.c0 k hlt2
          have c1 := I2'.c1 k hlt2
          have c2 := I2'.c2 k hlt2
          have c3 := I2'.c3 k hlt2
          obtain ⟨r0, r1⟩ := I2'.rj k hlt2
          obtain ⟨r2, r3⟩ := I2'.rc k hlt2
          have e11 : wr.cell? ⟨hb, 11, none⟩ = some uv := Joins.cell_of_block HS.hH 11
          have hhl := heap_lt HS.hH
          have hli : (k : Int) < (pn : Int) := by omega
          have HSH := (show Hid (St hb w.heap.size w.heap.size V (fun i => nmA (J1 i)) (fun i => ctA (C1 i)) T1 M1 (fun i => nmA (J2 i)) (fun i => ctA (C2 i)) T2 M2 w tv tn CB uv k CB2 wr) from HS)
          clear HS I2'
          go_wp2_with fail
          go_region_law (first
            | (go_simp; go_at_call 6; refine (build_any _ _ _ _ _ r0 r1 r2 r3).mono ?_; rintro e w2 ⟨cb, rfl, hcb1, hcb2, hcb3, hbel⟩; have hbel' := below_of_drew hbel; have e11' : w2.cell? ⟨hb, 11, none⟩ = some uv := Joins.cell_of_block (HSH.out.keep hbel' hB).hH 11; have hhl' : hb < w2.heap.size := heap_lt (HSH.out.keep hbel' hB).hH)
            | (refine step_append_lies _ rfl (.tmp 71) (.tmp 77) 31 rfl w.heap.size 50 i0 _ 15 136 Yba.underlying31 hi0 hz0 hz1 hz2 rfl (by decide) uv k (tks (fun i => nmA (J2 i)) T2 CB2 M2 k) (by simp [Act.eval]) ((HSH.out.keep hbel' hB).own2.alloc _) ⟨w2.heap.size, 0, none⟩ 1 1 (tkL (nmA (J2 k)) (T2 k) (some ⟨cb, 0, none⟩) (M2 k) none) (by simp [Act.eval]) rfl (World.news_of_block (heap_alloc_last0 _ _ _ rfl)) (tkL_one _ _ _ _ _) (by decide) (by unfold maxLen; omega) (by omega) (by have := hbel'.size; simp; omega) (w2.heap.size + 1) (by simp) ?_; intro g' cap' w4 hown hgrow hat hglt; obtain ⟨⟨e4, e5⟩, f4, f5⟩ := after_app1 (HSH.out.keep hbel' hB).hH (own_ne (HSH.out.keep hbel' hB).own2 (HSH.out.keep hbel' hB).hH (by decide)) hgrow))
          all_goals
            go_wp2
            obtain ⟨CB', HS'⟩ := st_push2 HSH.out hB hbel' hcb3 hown hgrow hat
            exact ⟨⟨k + 1, _, CB', by omega, by go_num, HS'⟩, by simp [intOf]; omega⟩
        · obtain rfl : pn = k := by omega
          have hB := HS.bel.size
          go_wp2_with fail
          refine (name_any cJ _ hj0 hj1).mono ?_
          rintro e w2 ⟨rfl, rfl⟩
          go_wp2_with fail
          refine (cont_any cC _ hc0 hc1).mono ?_
          rintro e w3 ⟨rfl, rfl⟩
          go_wp2
          generalize hW6 : (w2.alloc (.cells #[.float .f64 cT, .string (nmA cJ), .pointer (some ⟨w2.heap.size + 1, 0, none⟩), .int .i64 nano, .pointer none, .int .i64 wt, .pointer none] 58)).alloc (.cells #[.string (ctA cC)] 9) = W6
          have HB6 : Below w2.heap.size w2 W6 := by rw [← hW6]; exact Joins.below_alloc2 _ _ _
          have hcap : W6.heap[w2.heap.size]? = some (.cells #[.float .f64 cT, .string (nmA cJ), .pointer (some ⟨w2.heap.size + 1, 0, none⟩), .int .i64 nano, .pointer none, .int .i64 wt, .pointer none] 58 (0, 0)) := by rw [← hW6, Below.heap_alloc _ _ _ (by simp)]; exact heap_alloc_last0 _ _ _ rfl
          have hstr : W6.heap[w2.heap.size + 1]? = some (.cells #[.string (ctA cC)] 9 (0, 0)) := by rw [← hW6]; exact heap_alloc_two w2 _ _
          have HSA := HS.keep HB6 hB
          have hB6 : w.heap.size ≤ W6.heap.size := HSA.bel.size
          have I16 := I1.keep HSA.bel
          have k0 : W6.cell? ⟨w2.heap.size, 0, none⟩ = some (.float .f64 cT) := Joins.cell_of_block hcap 0
          have k1 : W6.cell? ⟨w2.heap.size, 1, none⟩ = some (.string (nmA cJ)) := Joins.cell_of_block hcap 1
          have k2 : W6.cell? ⟨w2.heap.size, 2, none⟩ = some (.pointer (some ⟨w2.heap.size + 1, 0, none⟩)) := Joins.cell_of_block hcap 2
          have k3 : W6.cell? ⟨w2.heap.size, 3, none⟩ = some (.int .i64 nano) := Joins.cell_of_block hcap 3
          have k4 : W6.cell? ⟨w2.heap.size, 4, none⟩ = some (.pointer none) := Joins.cell_of_block hcap 4
          have k5 : W6.cell? ⟨w2.heap.size, 5, none⟩ = some (.int .i64 wt) := Joins.cell_of_block hcap 5
          have k6 : W6.cell? ⟨w2.heap.size, 6, none⟩ = some (.pointer none) := Joins.cell_of_block hcap 6
          have HSTR := (show Hid (W6.heap[w2.heap.size + 1]? = some (.cells #[.string (ctA cC)] 9 (0, 0))) from hstr)
          have HSS := (show Hid (St hb w.heap.size w.heap.size V (fun i => nmA (J1 i)) (fun i => ctA (C1 i)) T1 M1 (fun i => nmA (J2 i)) (fun i => ctA (C2 i)) T2 M2 w tv tn CB uv pn CB2 W6) from HSA)
          clear hW6 hcap hstr HB6 HSA HS
          go_loop [22, 23] (fun kk i => ∃ q : Nat, q ≤ tn ∧ kk = .int .i64 (-1) ∧ i = .int .i64 q ∧ ∀ j, j < q → ¬ Mq J1 C1 cJ cC j) (fun _ i => tn - (intOf i).toNat)
          case atStart => exact ⟨0, Nat.zero_le _, rfl, rfl, fun j hj => absurd hj (Nat.not_lt_zero _)⟩
          case round =>
            obtain ⟨k, hk3, rfl, rfl, hno⟩ := hrel
            have HNO := (show Hid (∀ j, j < k → ¬ Mq J1 C1 cJ cC j) from hno)
            clear hno
            by_cases hlt3 : k < tn
            · obtain ⟨rfl, hbl⟩ := I1.ad (by omega)
              have d0 := I16.c0 k hlt3
              have d1 := I16.c1 k hlt3
              obtain ⟨r0, r1⟩ := I16.rj k hlt3
              obtain ⟨r2, r3⟩ := I16.rc k hlt3
              have hli : (k : Int) < (tn : Int) := by omega
              cases hA : (J1 k % 3 == cJ % 3)
              · have hnm : ¬ Mq J1 C1 cJ cC k := fun h => by have := h.1; rw [this] at hA; simp at hA
                have HNM := (show Hid (¬ Mq J1 C1 cJ cC k) from hnm)
                clear hnm
                go_wp2
                go_light
                exact ⟨⟨k + 1, by omega, rfl, by go_num, mq_step HNO.out HNM.out⟩, by simp [intOf]; omega⟩
              · cases hC : (C1 k % 3 == cC % 3)
                · have hnm : ¬ Mq J1 C1 cJ cC k := fun h => by have := h.2; rw [this] at hC; simp at hC
                  have HNM := (show Hid (¬ Mq J1 C1 cJ cC k) from hnm)
                  clear hnm
                  go_wp2
                  go_light
                  exact ⟨⟨k + 1, by omega, rfl, by go_num, mq_step HNO.out HNM.out⟩, by simp [intOf]; omega⟩
                · have hm : Mq J1 C1 cJ cC k := ⟨by simpa using hA, by simpa using hC⟩
                  have HMQ := (show Hid (Mq J1 C1 cJ cC k) from hm)
                  clear hm
                  exact absurd HMQ.out (hnone k hlt3)
            · obtain rfl : tn = k := by omega
              go_wp2_with fail
              refine (take_yes HSS.out hB6 (by omega) (by omega) cT (nmA cJ) (ctA cC) nano wt _ HSTR.out).mono ?_
              rintro e w5 (⟨rfl, hno5, hb5⟩ | ⟨rfl, g, cp1, k', lb, uv', rfl, TK⟩)
              · have HS5 := HSS.out.keep hb5 hB6
                have hB5 : w.heap.size ≤ w5.heap.size := HS5.bel.size
                obtain ⟨a1, cp1, rfl, ha1⟩ := own_form HS5.own1
                obtain ⟨a2, cp2, rfl, ha2⟩ := own_form HS5.own2
                have e0 : w5.cell? ⟨hb, 0, none⟩ = some (.pointer (some ⟨w.heap.size, 0, none⟩)) := Joins.cell_of_block HS5.hH 0
                have e10 : w5.cell? ⟨hb, 10, none⟩ = some (.slice a1 tn cp1) := Joins.cell_of_block HS5.hH 10
                have er2 : w5.cell? ⟨w.heap.size, 2, none⟩ = some (.slice none 0 0) := Joins.cell_of_block HS5.hR 2
                have HSH := (show Hid (St hb w.heap.size w.heap.size V (fun i => nmA (J1 i)) (fun i => ctA (C1 i)) T1 M1 (fun i => nmA (J2 i)) (fun i => ctA (C2 i)) T2 M2 w (.slice a1 tn cp1) tn CB (.slice a2 pn cp2) pn CB2 w5) from HS5)
                clear HS5
                go_wp2
                go_loopw [26, 27] (fun j i wq => ∃ q : Nat, q ≤ tn ∧ j = .int .i64 q ∧ i = .int .i64 q ∧ Below w5.heap.size w5 wq) (fun _ i _ => tn - (intOf i).toNat)
                case atStart => exact ⟨0, Nat.zero_le _, rfl, rfl, Below.refl _ _⟩
                case round =>
                  skip
                  obtain ⟨q, hq1, rfl, rfl, HBq⟩ := hrel
                  have HSq := HSH.out.keep HBq hB5
                  by_cases hq : q < tn
                  · obtain ⟨g, rfl⟩ := ha1 (by omega)
                    obtain ⟨rfl, hbl⟩ := I1.ad (by omega)
                    have Iq := I1.keep HSq.bel
                    have K : TkAt wr g (q * 15) (nmA (J1 q)) (T1 q) (CB q) (M1 q) none := tk_of_own HSq.own1 hq
                    have hgl : g < wr.heap.size := (HSq.own1.lt g rfl).2
                    have hhl := heap_lt HSq.hH
                    have htl := (Iq.ad (by omega)).2
                    have eq : wr.cell? ⟨hb, 10, none⟩ = some (.slice (some ⟨g, 0, none⟩) tn cp1) := Joins.cell_of_block HSq.hH 10
                    have hcbk : wr.heap[CB q]? = some (.cells #[.string (ctA (C1 q))] 9 (0, 0)) := HSq.cb1 q hq
                    have i0' := Iq.c0 q hq
                    have i1' := Iq.c1 q hq
                    have i2' := Iq.c2 q hq
                    have i3' := Iq.c3 q hq
                    obtain ⟨r0, r1⟩ := Iq.rj q hq
                    obtain ⟨r2, r3⟩ := Iq.rc q hq
                    have hli : (q : Int) < (tn : Int) := by omega
                    have KK := (show Hid (TkAt wr g (q * 15) (nmA (J1 q)) (T1 q) (CB q) (M1 q) none) from K)
                    have HCB := (show Hid (wr.heap[CB q]? = some (.cells #[.string (ctA (C1 q))] 9 (0, 0))) from hcbk)
                    clear Iq HSq K hcbk
                    go_wp2_with fail
                    go_region_held3 (fun w' => w'.cell? ⟨hb, 10, none⟩ = some (.slice (some ⟨g, 0, none⟩) tn cp1) ∧ w'.cell? ⟨g, q * 15, none⟩ = some (.string (nmA (J1 q))) ∧ w'.cell? ⟨g, q * 15 + 1, none⟩ = some (.float .f64 (T1 q)) ∧ w'.cell? ⟨g, q * 15 + 2, none⟩ = some (.pointer (some ⟨CB q, 0, none⟩)) ∧ w'.cell? ⟨g, q * 15 + 3, none⟩ = some (.pointer none) ∧ w'.cell? ⟨g, q * 15 + 4, none⟩ = some (.float .f64 0) ∧ w'.cell? ⟨g, q * 15 + 5, none⟩ = some (.float .f64 0) ∧ w'.cell? ⟨g, q * 15 + 6, none⟩ = some (.float .f64 0) ∧ w'.cell? ⟨g, q * 15 + 7, none⟩ = some (.float .f64 0) ∧ w'.cell? ⟨g, q * 15 + 8, none⟩ = some (.string ⟨#[]⟩) ∧ w'.cell? ⟨g, q * 15 + 9, none⟩ = some (.float .f64 0) ∧ w'.cell? ⟨g, q * 15 + 10, none⟩ = some (.int .i64 0) ∧ w'.cell? ⟨g, q * 15 + 11, none⟩ = some (.float .f64 0) ∧ w'.cell? ⟨g, q * 15 + 12, none⟩ = some (.int .i64 0) ∧ w'.cell? ⟨g, q * 15 + 13, none⟩ = some (.float .f64 (M1 q)) ∧ w'.cell? ⟨g, q * 15 + 14, none⟩ = some (.pointer none) ∧ w'.cell? ⟨tb, toff + q * 4, none⟩ = some (.int .u8 (J1 q)) ∧ w'.cell? ⟨tb, toff + q * 4 + 1, none⟩ = some (.int .u8 (C1 q)) ∧ w'.cell? ⟨tb, toff + q * 4 + 2, none⟩ = some (.float .f64 (T1 q)) ∧ w'.cell? ⟨tb, toff + q * 4 + 3, none⟩ = some (.float .f64 (M1 q)))
                      (first | exact ks4 (Below.refl _ _).drew hhl hgl htl eq KK.out i0' i1' i2' i3' | exact ks4 hbel' hhl hgl htl eq KK.out i0' i1' i2' i3')
                      (first | (go_at_call 10; refine (same_any _ _ _ _ _ _ _ _ wr.drew r0 r1 r2 r3 rfl rfl (heap_lt HCB.out) HCB.out).mono ?_; rintro e w7 ⟨rfl, hbel⟩; have hbel' := below_of_drew hbel))
                    all_goals
                      go_wp2
                      go_light
                      exact ⟨⟨q + 1, by omega, by go_num, by go_num, HBq.trans (hbel'.mono HBq.size)⟩, by simp [intOf]; omega⟩
                  · obtain rfl : tn = q := by omega
                    have e11 : wr.cell? ⟨hb, 11, none⟩ = some (.slice a2 pn cp2) := Joins.cell_of_block HSq.hH 11
                    clear HSq
                    obtain ⟨W7, rfl⟩ : ∃ x, x = wr := ⟨_, rfl⟩
                    go_wp2
                    go_loopw [29] (fun i wq => ∃ q : Nat, q ≤ pn ∧ i = .int .i64 q ∧ Below w5.heap.size w5 wq) (fun i _ => pn - (intOf i).toNat)
                    case atStart => exact ⟨0, Nat.zero_le _, rfl, HBq⟩
                    case round =>
                      clear HBq
                      obtain ⟨q, hq1, rfl, HBq⟩ := hrel
                      have HSq := HSH.out.keep HBq hB5
                      by_cases hq : q < pn
                      · obtain ⟨g, rfl⟩ := ha2 (by omega)
                        obtain ⟨rfl, hbl⟩ := I2.ad (by omega)
                        have Iq := I2.keep HSq.bel
                        have K : TkAt wr g (q * 15) (nmA (J2 q)) (T2 q) (CB2 q) (M2 q) none := tk_of_own HSq.own2 hq
                        have hgl : g < wr.heap.size := (HSq.own2.lt g rfl).2
                        have hhl := heap_lt HSq.hH
                        have htl := (Iq.ad (by omega)).2
                        have eq : wr.cell? ⟨hb, 11, none⟩ = some (.slice (some ⟨g, 0, none⟩) pn cp2) := Joins.cell_of_block HSq.hH 11
                        have hcbk : wr.heap[CB2 q]? = some (.cells #[.string (ctA (C2 q))] 9 (0, 0)) := HSq.cb2 q hq
                        have i0' := Iq.c0 q hq
                        have i1' := Iq.c1 q hq
                        have i2' := Iq.c2 q hq
                        have i3' := Iq.c3 q hq
                        obtain ⟨r0, r1⟩ := Iq.rj q hq
                        obtain ⟨r2, r3⟩ := Iq.rc q hq
                        have hli : (q : Int) < (pn : Int) := by omega
                        have KK := (show Hid (TkAt wr g (q * 15) (nmA (J2 q)) (T2 q) (CB2 q) (M2 q) none) from K)
                        have HCB := (show Hid (wr.heap[CB2 q]? = some (.cells #[.string (ctA (C2 q))] 9 (0, 0))) from hcbk)
                        clear Iq HSq K hcbk
                        go_wp2_with fail
                        go_region_held3 (fun w' => w'.cell? ⟨hb, 11, none⟩ = some (.slice (some ⟨g, 0, none⟩) pn cp2) ∧ w'.cell? ⟨g, q * 15, none⟩ = some (.string (nmA (J2 q))) ∧ w'.cell? ⟨g, q * 15 + 1, none⟩ = some (.float .f64 (T2 q)) ∧ w'.cell? ⟨g, q * 15 + 2, none⟩ = some (.pointer (some ⟨CB2 q, 0, none⟩)) ∧ w'.cell? ⟨g, q * 15 + 3, none⟩ = some (.pointer none) ∧ w'.cell? ⟨g, q * 15 + 4, none⟩ = some (.float .f64 0) ∧ w'.cell? ⟨g, q * 15 + 5, none⟩ = some (.float .f64 0) ∧ w'.cell? ⟨g, q * 15 + 6, none⟩ = some (.float .f64 0) ∧ w'.cell? ⟨g, q * 15 + 7, none⟩ = some (.float .f64 0) ∧ w'.cell? ⟨g, q * 15 + 8, none⟩ = some (.string ⟨#[]⟩) ∧ w'.cell? ⟨g, q * 15 + 9, none⟩ = some (.float .f64 0) ∧ w'.cell? ⟨g, q * 15 + 10, none⟩ = some (.int .i64 0) ∧ w'.cell? ⟨g, q * 15 + 11, none⟩ = some (.float .f64 0) ∧ w'.cell? ⟨g, q * 15 + 12, none⟩ = some (.int .i64 0) ∧ w'.cell? ⟨g, q * 15 + 13, none⟩ = some (.float .f64 (M2 q)) ∧ w'.cell? ⟨g, q * 15 + 14, none⟩ = some (.pointer none) ∧ w'.cell? ⟨pb, poff + q * 4, none⟩ = some (.int .u8 (J2 q)) ∧ w'.cell? ⟨pb, poff + q * 4 + 1, none⟩ = some (.int .u8 (C2 q)) ∧ w'.cell? ⟨pb, poff + q * 4 + 2, none⟩ = some (.float .f64 (T2 q)) ∧ w'.cell? ⟨pb, poff + q * 4 + 3, none⟩ = some (.float .f64 (M2 q)))
                          (first | exact ks4 (Below.refl _ _).drew hhl hgl htl eq KK.out i0' i1' i2' i3' | exact ks4 hbel' hhl hgl htl eq KK.out i0' i1' i2' i3')
                          (first | (go_at_call 10; refine (same_any _ _ _ _ _ _ _ _ wr.drew r0 r1 r2 r3 rfl rfl (heap_lt HCB.out) HCB.out).mono ?_; rintro e w7 ⟨rfl, hbel⟩; have hbel' := below_of_drew hbel))
                        all_goals
                          go_wp2
                          go_light
                          exact ⟨⟨q + 1, by omega, by go_num, HBq.trans (hbel'.mono HBq.size)⟩, by simp [intOf]; omega⟩
                      · obtain rfl : pn = q := by omega
                        have HE := HSq.bel
                        go_wp2
                        go_ret
                        exact ⟨rfl, HE⟩
              · exact absurd ((mt_iff J1 C1 cJ cC k').1 TK.mt) (HNO.out k' TK.lt)

end Go.Proofs.Ybulkdvju
