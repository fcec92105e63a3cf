import Derived.Test.YbulkdvjuLawBU
namespace Go.Proofs.Ybulkdvju
open Go.RowKit
attribute [local go_sem] run_store_float

set_option maxRecDepth 100000 in
set_option maxHeartbeats 40000000 in
theorem lawB_V : splitU.1 := by
  intro cJ cC cT nano wt pa tc pn pc tb toff pb poff J1 C1 T1 M1 J2 C2 T2 M2 w hj0 hj1 hc0 hc1 I2 Qr w0 hb v1 v2 v3 v4 v5 v6 v7 v8 v9 V K7 u41 u42 u43 u44 u45 u46 u47 u48 u49 u50 u51 u52 u53 u54 u55 u56 u57 u58 u59 u60 CB W1 K6 K5 u61 u62 u63 u64 u65 u66 u67 u68 u69 u70 u71 u72 u73 u74 u75 u76 u77 u78 u79 u80 uv CB2 K4 w2 hB K3 W6 u92 u93 u94 u95 u96 u97 u98 u99 u100 u101 u102 u103 u104 u105 u106 u107 u108 u109 u110 u111 u112 u113 u114 u115 u116 u117 u118 k hbl r0 r1 r2 r3 K2 w5 g cp1 lb t1 hsum hlt3 I1 g2 cp2 hB5 HFH Kc2 u16a u148 u149 u150 u151 u152 u153 u154 u155 u156 u157 u158 u159 u160 u161 u162 u163 u164 u165 u166 u167 u168 u169 u170 u171 u172 u173 u174 u175 u176 u177 u178 u179 u180 u181 u182 q jq W7 Qa Kc1 Kc0 Aa0 wr u16 u196 u197 u198 u199 u200 u201 u202 u203 u204 u205 u206 u207 u208 u209 u210 u211 u212 u213 u214 u215 u216 u217 u218 u219 u220 u221 u222 u223 u224 u225 HBq FBq
  have hkl1 : (k : Int) < (t1 : Int) + 1 := by omega
  have FBe := FBq
  have hFe := FBe.last
  obtain ⟨y0, y1, y2, y3, y4, y5, y6, y7, y8, y9, y10, y11, y12, y13, y14⟩ := hFe
  have eq : wr.cell? ⟨hb, 11, none⟩ = some (.slice (some ⟨g2, 0, none⟩) (pn + 1) cp2) := Joins.cell_of_block FBq.hH 11
  have hpl : (pn : Int) < (pn : Int) + 1 := by omega
  have HFE := (show Hid (FinB hb w.heap.size w.heap.size g t1 cp1 g2 cp2 pn lb (w2.heap.size + 1) k V (fun i => nmA (J1 i)) (fun i => ctA (C1 i)) T1 M1 CB (fun i => nmA (J2 i)) (fun i => ctA (C2 i)) T2 M2 CB2 cT (nmA cJ) (ctA cC) nano wt w wr) from FBq)
  have hBe : w.heap.size ≤ wr.heap.size := FBq.bel.size
  clear FBq FBe
  go_wp2_with fail
  generalize hW8 : wr.alloc (.cells #[.string (nmA (J1 k)), .float .f64 (T1 k), .pointer (some ⟨CB k, 0, none⟩), .pointer none, .float .f64 0, .float .f64 0, .float .f64 0, .float .f64 0, .string ⟨#[]⟩, .float .f64 0, .int .i64 0, .float .f64 0, .int .i64 0, .float .f64 (M1 k), .pointer (some ⟨lb, 0, none⟩)] 50) = W8
  have HB8 : Below wr.heap.size wr W8 := by rw [← hW8]; exact Joins.below_alloc1 _ _
  have hbx : W8.heap[wr.heap.size]? = some (.cells (boxA (nmA (J1 k)) (T1 k) (CB k) (M1 k) (some ⟨lb, 0, none⟩)) 50 (0, 0)) := by rw [← hW8]; exact heap_alloc_last0 _ _ _ rfl
  have FB8 := HFE.out.keep HB8 hBe
  have I8 := I1.keep FB8.bel
  have K8 : TkAt W8 wr.heap.size 0 (nmA (J1 k)) (T1 k) (CB k) (M1 k) (some ⟨lb, 0, none⟩) := tkAt_of fun q hq => by rw [Nat.zero_add]; exact (Joins.cell_of_block hbx q).trans (by simp [boxA, tkL])
  have hgl8 := heap_lt hbx
  have htl8 := (I8.ad (by omega)).2
  have hhl8 := heap_lt FB8.hH
  have i0' := I8.c0 k hlt3
  have i1' := I8.c1 k hlt3
  have i2' := I8.c2 k hlt3
  have i3' := I8.c3 k hlt3
  have eq8 : W8.cell? ⟨hb, 11, none⟩ = some (.slice (some ⟨g2, 0, none⟩) (pn + 1) cp2) := Joins.cell_of_block FB8.hH 11
  have hB8 : w.heap.size ≤ W8.heap.size := FB8.bel.size
  have HCB : Hid (W8.heap[CB k]? = some (.cells #[.string (ctA (C1 k))] 9 (0, 0))) := FB8.cb1 k hlt3
  have HF8 := (show Hid (FinB hb w.heap.size w.heap.size g t1 cp1 g2 cp2 pn lb (w2.heap.size + 1) k V (fun i => nmA (J1 i)) (fun i => ctA (C1 i)) T1 M1 CB (fun i => nmA (J2 i)) (fun i => ctA (C2 i)) T2 M2 CB2 cT (nmA cJ) (ctA cC) nano wt w W8) from FB8)
  have HK8 := (show Hid (TkAt W8 wr.heap.size 0 (nmA (J1 k)) (T1 k) (CB k) (M1 k) (some ⟨lb, 0, none⟩)) from K8)
  clear y0 y1 y2 y3 y4 y5 y6 y7 y8 y9 y10 y11 y12 y13 y14 hW8 HB8 hbx FB8 I8 K8 eq
  go_region_held3 (fun w' => w'.cell? ⟨hb, 11, none⟩ = some (.slice (some ⟨g2, 0, none⟩) (pn + 1) cp2) ∧ w'.cell? ⟨wr.heap.size, 0, none⟩ = some (.string (nmA (J1 k))) ∧ w'.cell? ⟨wr.heap.size, 1, none⟩ = some (.float .f64 (T1 k)) ∧ w'.cell? ⟨wr.heap.size, 2, none⟩ = some (.pointer (some ⟨CB k, 0, none⟩)) ∧ w'.cell? ⟨wr.heap.size, 3, none⟩ = some (.pointer none) ∧ w'.cell? ⟨wr.heap.size, 4, none⟩ = some (.float .f64 0) ∧ w'.cell? ⟨wr.heap.size, 5, none⟩ = some (.float .f64 0) ∧ w'.cell? ⟨wr.heap.size, 6, none⟩ = some (.float .f64 0) ∧ w'.cell? ⟨wr.heap.size, 7, none⟩ = some (.float .f64 0) ∧ w'.cell? ⟨wr.heap.size, 8, none⟩ = some (.string ⟨#[]⟩) ∧ w'.cell? ⟨wr.heap.size, 9, none⟩ = some (.float .f64 0) ∧ w'.cell? ⟨wr.heap.size, 10, none⟩ = some (.int .i64 0) ∧ w'.cell? ⟨wr.heap.size, 11, none⟩ = some (.float .f64 0) ∧ w'.cell? ⟨wr.heap.size, 12, none⟩ = some (.int .i64 0) ∧ w'.cell? ⟨wr.heap.size, 13, none⟩ = some (.float .f64 (M1 k)) ∧ w'.cell? ⟨wr.heap.size, 14, none⟩ = some (.pointer (some ⟨lb, 0, none⟩)) ∧ w'.cell? ⟨tb, toff + k * 4, none⟩ = some (.int .u8 (J1 k)) ∧ w'.cell? ⟨tb, toff + k * 4 + 1, none⟩ = some (.int .u8 (C1 k)) ∧ w'.cell? ⟨tb, toff + k * 4 + 2, none⟩ = some (.float .f64 (T1 k)) ∧ w'.cell? ⟨tb, toff + k * 4 + 3, none⟩ = some (.float .f64 (M1 k)))
    (first | exact ks4 (Below.refl _ _).drew hhl8 hgl8 htl8 eq8 HK8.out i0' i1' i2' i3' | exact ks4 hbel' hhl8 hgl8 htl8 eq8 HK8.out i0' i1' i2' i3')
    (first | (go_at_call 10; refine (same_any _ _ _ _ _ _ _ _ W8.drew r0 r1 r2 r3 rfl rfl (heap_lt HCB.out) HCB.out).mono ?_; rintro e w9 ⟨rfl, hbel⟩; have hbel' := below_of_drew hbel; have l14 : w9.cell? ⟨wr.heap.size, 14, none⟩ = some (.pointer (some ⟨lb, 0, none⟩)) := (hbel'.cell (p := ⟨wr.heap.size, 14, none⟩) hgl8).trans HK8.out.c14))
  ·
    have F9 := HF8.out.keep hbel' hB8
    have l0 : w9.cell? ⟨lb, 0, none⟩ = some (.float .f64 cT) := Joins.cell_of_block F9.lift 0
    have l1 : w9.cell? ⟨lb, 1, none⟩ = some (.string (nmA cJ)) := Joins.cell_of_block F9.lift 1
    have l2 : w9.cell? ⟨lb, 2, none⟩ = some (.pointer (some ⟨w2.heap.size + 1, 0, none⟩)) := Joins.cell_of_block F9.lift 2
    have l3 : w9.cell? ⟨lb, 3, none⟩ = some (.int .i64 nano) := Joins.cell_of_block F9.lift 3
    have l4 : w9.cell? ⟨lb, 4, none⟩ = some (.pointer none) := Joins.cell_of_block F9.lift 4
    have l5 : w9.cell? ⟨lb, 5, none⟩ = some (.int .i64 wt) := Joins.cell_of_block F9.lift 5
    have l6 : w9.cell? ⟨lb, 6, none⟩ = some (.pointer none) := Joins.cell_of_block F9.lift 6
    have lc : w9.cell? ⟨w2.heap.size + 1, 0, none⟩ = some (.string (ctA cC)) := Joins.cell_of_block F9.str 0
    have hBE := F9.bel
    clear F9
    have hfb := fbits7
    go_wp2_with fail
    go_region_held3 (fun w' => w'.cell? ⟨lb, 0, none⟩ = some (.float .f64 cT) ∧ w'.cell? ⟨lb, 1, none⟩ = some (.string (nmA cJ)) ∧ w'.cell? ⟨lb, 3, none⟩ = some (.int .i64 nano) ∧ w'.cell? ⟨lb, 5, none⟩ = some (.int .i64 wt)) (go_keep)
      (first | (go_at_call 7; refine (name_any _ _ hj0 hj1).mono ?_; rintro e w' ⟨rfl, rfl⟩))
    go_wp2_with fail
    go_region_held3 (fun w' => w'.cell? ⟨lb, 2, none⟩ = some (.pointer (some ⟨w2.heap.size + 1, 0, none⟩)) ∧ w'.cell? ⟨lb, 4, none⟩ = some (.pointer none) ∧ w'.cell? ⟨lb, 6, none⟩ = some (.pointer none) ∧ w'.cell? ⟨w2.heap.size + 1, 0, none⟩ = some (.string (ctA cC))) (go_keep)
      (first | (go_at_call 8; refine (cont_any _ _ hc0 hc1).mono ?_; rintro e w' ⟨rfl, rfl⟩))
    go_wp2
    go_ret
    exact ⟨rfl, hBE.drew.drew⟩

theorem lawB_T (cJ cC : Int) (cT : Nat) (nano wt : Int) (ta pa : Option Addr) (tn tc pn pc tb toff pb poff : Nat) (J1 C1 : Nat → Int) (T1 M1 : Nat → Nat) (J2 C2 : Nat → Int) (T2 M2 : Nat → Nat) (w : World)
    (hj0 : 0 ≤ cJ) (hj1 : cJ ≤ 255) (hc0 : 0 ≤ cC) (hc1 : cC ≤ 255) (hsum : tn + pn ≤ 65536) (mx : Nat) (hmn : mx < tn) (hmx : Mq J1 C1 cJ cC mx) (I1 : InE ta tn tb toff J1 C1 T1 M1 w) (I2 : InE pa pn pb poff J2 C2 T2 M2 w) :
    Calls Yba.prog 3 #[.int .u8 cJ, .bool true, .int .u8 cC, .float .f64 cT, .int .i64 nano, .int .i64 wt, .slice ta tn tc, .slice pa pn pc] w fun e w' => e = .returned (.bool true) ∧ Below w.heap.size w w' := by
  exact splitT.2 (splitU.2 lawB_V) cJ cC cT nano wt ta pa tn tc pn pc tb toff pb poff J1 C1 T1 M1 J2 C2 T2 M2 w hj0 hj1 hc0 hc1 hsum mx hmn hmx I1 I2

end Go.Proofs.Ybulkdvju
