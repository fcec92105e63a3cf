import Derived.Test.YbulkdvjuLawBT
namespace Go.Proofs.Ybulkdvju
open Go.RowKit
attribute [local go_sem] run_store_float

set_option maxRecDepth 100000 in
set_option maxHeartbeats 40000000 in
noncomputable def splitU : PSigma fun P : Prop => Hid P → splitT.1 := by
  apply PSigma.mk
  case snd =>
    intro hP cJ cC cT nano wt pa tc pn pc tb toff pb poff J1 C1 T1 M1 J2 C2 T2 M2 w hj0 hj1 hc0 hc1 I2 Qr w0 hb v1 v2 v3 v4 v5 v6 v7 v8 v9 V K7 u41 u42 u43 u44 u45 u46 u47 u48 u49 u50 u51 u52 u53 u54 u55 u56 u57 u58 u59 u60 CB W1 K6 K5 u61 u62 u63 u64 u65 u66 u67 u68 u69 u70 u71 u72 u73 u74 u75 u76 u77 u78 u79 u80 uv CB2 K4 w2 hB K3 W6 u92 u93 u94 u95 u96 u97 u98 u99 u100 u101 u102 u103 u104 u105 u106 u107 u108 u109 u110 u111 u112 u113 u114 u115 u116 u117 u118 k hbl r0 r1 r2 r3 K2 K1 A4 K0 A3 w5 g cp1 lb t1 hsum hlt3 I1 g2 cp2 hB5 e0 e10 er2 HFH
    go_wp2
    go_loopw [26, 27] (fun j i wq => ∃ q jq : Nat, q ≤ t1 + 1 ∧ (q ≤ k ∧ jq = q ∨ k < q ∧ jq + 1 = q) ∧ j = .int .i64 jq ∧ i = .int .i64 q ∧ Below w5.heap.size w5 wq) (fun _ i _ => t1 + 1 - (intOf i).toNat)
    case atStart => exact ⟨0, 0, Nat.zero_le _, .inl ⟨Nat.zero_le _, rfl⟩, rfl, rfl, Below.refl _ _⟩
    case round =>
      obtain ⟨q, jq, hq1, hjq, rfl, rfl, HBq⟩ := hrel
      have HJQ := (show Hid (q ≤ k ∧ jq = q ∨ k < q ∧ jq + 1 = q) from hjq)
      clear hjq
      have FBq := HFH.out.keep HBq hB5
      by_cases hq : q < t1 + 1
      · have hli : (q : Int) < (t1 : Int) + 1 := by omega
        by_cases hqk : q = k
        · have hqk' : ((q : Int) == (k : Int)) = true := by simp; omega
          clear FBq
          go_wp2
          go_light
          have hjq := HJQ.out
          exact ⟨⟨q + 1, jq, by omega, by omega, rfl, by go_num, HBq⟩, by simp [intOf]; omega⟩
        ·
            have hqk' : ((q : Int) == (k : Int)) = false := by simp; omega
            have K : TkAt wr g (jq * 15) (nmA (J1 q)) (T1 q) (CB q) (M1 q) none := hKat FBq HJQ.out hqk hq
            have Iq := I1.keep FBq.bel
            have hgl : g < wr.heap.size := FBq.gl
            have hhl := heap_lt FBq.hH
            have htl := (Iq.ad (by omega)).2
            have eq : wr.cell? ⟨hb, 10, none⟩ = some (.slice (some ⟨g, 0, none⟩) t1 cp1) := Joins.cell_of_block FBq.hH 10
            have hcbk : wr.heap[CB q]? = some (.cells #[.string (ctA (C1 q))] 9 (0, 0)) := FBq.cb1 q hq
            have i0' := Iq.c0 q hq
            have i1' := Iq.c1 q hq
            have i2' := Iq.c2 q hq
            have i3' := Iq.c3 q hq
            obtain ⟨r0, r1⟩ := Iq.rj q hq
            obtain ⟨r2, r3⟩ := Iq.rc q hq
            have hjl : (jq : Int) < (t1 : Int) := by have := HJQ.out; omega
            have KK := (show Hid (TkAt wr g (jq * 15) (nmA (J1 q)) (T1 q) (CB q) (M1 q) none) from K)
            have HCB := (show Hid (wr.heap[CB q]? = some (.cells #[.string (ctA (C1 q))] 9 (0, 0))) from hcbk)
            clear Iq FBq K hcbk
            go_wp2_with fail
            go_region_held3 (fun w' => w'.cell? ⟨hb, 10, none⟩ = some (.slice (some ⟨g, 0, none⟩) t1 cp1) ∧ w'.cell? ⟨g, jq * 15, none⟩ = some (.string (nmA (J1 q))) ∧ w'.cell? ⟨g, jq * 15 + 1, none⟩ = some (.float .f64 (T1 q)) ∧ w'.cell? ⟨g, jq * 15 + 2, none⟩ = some (.pointer (some ⟨CB q, 0, none⟩)) ∧ w'.cell? ⟨g, jq * 15 + 3, none⟩ = some (.pointer none) ∧ w'.cell? ⟨g, jq * 15 + 4, none⟩ = some (.float .f64 0) ∧ w'.cell? ⟨g, jq * 15 + 5, none⟩ = some (.float .f64 0) ∧ w'.cell? ⟨g, jq * 15 + 6, none⟩ = some (.float .f64 0) ∧ w'.cell? ⟨g, jq * 15 + 7, none⟩ = some (.float .f64 0) ∧ w'.cell? ⟨g, jq * 15 + 8, none⟩ = some (.string ⟨#[]⟩) ∧ w'.cell? ⟨g, jq * 15 + 9, none⟩ = some (.float .f64 0) ∧ w'.cell? ⟨g, jq * 15 + 10, none⟩ = some (.int .i64 0) ∧ w'.cell? ⟨g, jq * 15 + 11, none⟩ = some (.float .f64 0) ∧ w'.cell? ⟨g, jq * 15 + 12, none⟩ = some (.int .i64 0) ∧ w'.cell? ⟨g, jq * 15 + 13, none⟩ = some (.float .f64 (M1 q)) ∧ w'.cell? ⟨g, jq * 15 + 14, none⟩ = some (.pointer none) ∧ w'.cell? ⟨tb, toff + q * 4, none⟩ = some (.int .u8 (J1 q)) ∧ w'.cell? ⟨tb, toff + q * 4 + 1, none⟩ = some (.int .u8 (C1 q)) ∧ w'.cell? ⟨tb, toff + q * 4 + 2, none⟩ = some (.float .f64 (T1 q)) ∧ w'.cell? ⟨tb, toff + q * 4 + 3, none⟩ = some (.float .f64 (M1 q)))
              (first | exact ks4 (Below.refl _ _).drew hhl hgl htl eq KK.out i0' i1' i2' i3' | exact ks4 hbel' hhl hgl htl eq KK.out i0' i1' i2' i3')
              (first | (go_at_call 10; refine (same_any _ _ _ _ _ _ _ _ wr.drew r0 r1 r2 r3 rfl rfl (heap_lt HCB.out) HCB.out).mono ?_; rintro e w7 ⟨rfl, hbel⟩; have hbel' := below_of_drew hbel))
            all_goals
              go_wp2
              go_light
              have hjq := HJQ.out
              exact ⟨⟨q + 1, jq + 1, by omega, by omega, by go_num, by go_num, HBq.trans (hbel'.mono HBq.size)⟩, by simp [intOf]; omega⟩
      · have hdq : decide ((q : Int) < (t1 : Int) + 1) = false := by simp; omega
        have e11 : wr.cell? ⟨hb, 11, none⟩ = some (.slice (some ⟨g2, 0, none⟩) (pn + 1) cp2) := Joins.cell_of_block FBq.hH 11
        clear FBq
        obtain ⟨W7, rfl⟩ : ∃ x, x = wr := ⟨_, rfl⟩
        go_wp2
        go_loopw [29] (fun i wq => ∃ q : Nat, q ≤ pn ∧ i = .int .i64 q ∧ Below w5.heap.size w5 wq) (fun i _ => pn - (intOf i).toNat)
        case atStart => exact ⟨0, Nat.zero_le _, rfl, HBq⟩
        case round =>
          clear HBq
          obtain ⟨q, hq1, rfl, HBq⟩ := hrel
          have FBq := HFH.out.keep HBq hB5
          by_cases hq : q < pn
          ·
              obtain ⟨rfl, hbl2⟩ := I2.ad (by omega)
              have K : TkAt wr g2 (q * 15) (nmA (J2 q)) (T2 q) (CB2 q) (M2 q) none := FBq.un q hq
              have Iq := I2.keep FBq.bel
              have hgl : g2 < wr.heap.size := FBq.gl2
              have hhl := heap_lt FBq.hH
              have htl := (Iq.ad (by omega)).2
              have eq : wr.cell? ⟨hb, 11, none⟩ = some (.slice (some ⟨g2, 0, none⟩) (pn + 1) cp2) := Joins.cell_of_block FBq.hH 11
              have hcbk : wr.heap[CB2 q]? = some (.cells #[.string (ctA (C2 q))] 9 (0, 0)) := FBq.cb2 q hq
              have i0' := Iq.c0 q hq
              have i1' := Iq.c1 q hq
              have i2' := Iq.c2 q hq
              have i3' := Iq.c3 q hq
              obtain ⟨r0, r1⟩ := Iq.rj q hq
              obtain ⟨r2, r3⟩ := Iq.rc q hq
              have hli : (q : Int) < (pn : Int) := by omega
              have hli2 : (q : Int) < (pn : Int) + 1 := by omega
              have KK := (show Hid (TkAt wr g2 (q * 15) (nmA (J2 q)) (T2 q) (CB2 q) (M2 q) none) from K)
              have HCB := (show Hid (wr.heap[CB2 q]? = some (.cells #[.string (ctA (C2 q))] 9 (0, 0))) from hcbk)
              clear Iq FBq K hcbk
              go_wp2_with fail
              go_region_held3 (fun w' => w'.cell? ⟨hb, 11, none⟩ = some (.slice (some ⟨g2, 0, none⟩) (pn + 1) cp2) ∧ w'.cell? ⟨g2, q * 15, none⟩ = some (.string (nmA (J2 q))) ∧ w'.cell? ⟨g2, q * 15 + 1, none⟩ = some (.float .f64 (T2 q)) ∧ w'.cell? ⟨g2, q * 15 + 2, none⟩ = some (.pointer (some ⟨CB2 q, 0, none⟩)) ∧ w'.cell? ⟨g2, q * 15 + 3, none⟩ = some (.pointer none) ∧ w'.cell? ⟨g2, q * 15 + 4, none⟩ = some (.float .f64 0) ∧ w'.cell? ⟨g2, q * 15 + 5, none⟩ = some (.float .f64 0) ∧ w'.cell? ⟨g2, q * 15 + 6, none⟩ = some (.float .f64 0) ∧ w'.cell? ⟨g2, q * 15 + 7, none⟩ = some (.float .f64 0) ∧ w'.cell? ⟨g2, q * 15 + 8, none⟩ = some (.string ⟨#[]⟩) ∧ w'.cell? ⟨g2, q * 15 + 9, none⟩ = some (.float .f64 0) ∧ w'.cell? ⟨g2, q * 15 + 10, none⟩ = some (.int .i64 0) ∧ w'.cell? ⟨g2, q * 15 + 11, none⟩ = some (.float .f64 0) ∧ w'.cell? ⟨g2, q * 15 + 12, none⟩ = some (.int .i64 0) ∧ w'.cell? ⟨g2, q * 15 + 13, none⟩ = some (.float .f64 (M2 q)) ∧ w'.cell? ⟨g2, q * 15 + 14, none⟩ = some (.pointer none) ∧ w'.cell? ⟨pb, poff + q * 4, none⟩ = some (.int .u8 (J2 q)) ∧ w'.cell? ⟨pb, poff + q * 4 + 1, none⟩ = some (.int .u8 (C2 q)) ∧ w'.cell? ⟨pb, poff + q * 4 + 2, none⟩ = some (.float .f64 (T2 q)) ∧ w'.cell? ⟨pb, poff + q * 4 + 3, none⟩ = some (.float .f64 (M2 q)))
                (first | exact ks4 (Below.refl _ _).drew hhl hgl htl eq KK.out i0' i1' i2' i3' | exact ks4 hbel' hhl hgl htl eq KK.out i0' i1' i2' i3')
                (first | (go_at_call 10; refine (same_any _ _ _ _ _ _ _ _ wr.drew r0 r1 r2 r3 rfl rfl (heap_lt HCB.out) HCB.out).mono ?_; rintro e w7 ⟨rfl, hbel⟩; have hbel' := below_of_drew hbel))
              all_goals
                go_wp2
                go_light
                exact ⟨⟨q + 1, by omega, by go_num, HBq.trans (hbel'.mono HBq.size)⟩, by simp [intOf]; omega⟩
          · obtain rfl : pn = q := by omega
            rename_i Kc2 u16a hq1a hqa Qa Kc1 Aa1 Kc0 Aa0
            clear hq1a hqa Aa1 hdq e11 HJQ hq1 hq e0 e10 er2
            revert cJ cC cT nano wt pa tc pn pc tb toff pb poff J1 C1 T1 M1 J2 C2 T2 M2 w w0 hb v1 v2 v3 v4 v5 v6 v7 v8 v9 V K7 K6 K5 K4 K3 K2 u41 u42 u43 u44 u45 u46 u47 u48 u49 u50 u51 u52 u53 u54 u55 u56 u57 u58 u59 u60 u61 u62 u63 u64 u65 u66 u67 u68 u69 u70 u71 u72 u73 u74 u75 u76 u77 u78 u79 u80 CB W1 uv CB2 w2 W6 u92 u93 u94 u95 u96 u97 u98 u99 u100 u101 u102 u103 u104 u105 u106 u107 u108 u109 u110 u111 u112 u113 u114 u115 u116 u117 u118 k w5 g cp1 lb t1 g2 cp2 Kc2 u16a u148 u149 u150 u151 u152 u153 u154 u155 u156 u157 u158 u159 u160 u161 u162 u163 u164 u165 u166 u167 u168 u169 u170 u171 u172 u173 u174 u175 u176 u177 u178 u179 u180 u181 u182 q jq W7 Kc1 Kc0 wr u16 u196 u197 u198 u199 u200 u201 u202 u203 u204 u205 u206 u207 u208 u209 u210 u211 u212 u213 u214 u215 u216 u217 u218 u219 u220 u221 u222 u223 u224 u225
            exact hP

end Go.Proofs.Ybulkdvju
