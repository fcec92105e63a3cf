import Derived.Test.YbulkdvjuTail
namespace Go.Proofs.Ybulkdvju
open Go.RowKit
attribute [local go_sem] run_store_float

set_option maxRecDepth 100000 in
set_option maxHeartbeats 4000000 in
theorem lawC_main (b off len cap : Nat) (HR : Nat → Bool) (TF : Nat → Nat) (AG : Nat → ByteArray) (JA : Nat → Option Addr) (JX JO JL JC : Nat → Nat) (J : Nat → Nat → Int) (name : ByteArray) (w : World)
    (hl0 : 0 < len) (hlen : len ≤ 65536) (HI : InHosts b off len HR TF AG JA JX JO JL JC J w) (hsm : sumTo JL len ≤ 1048576) :
    Calls Yba.prog 4 #[.slice (some ⟨b, off, none⟩) len cap, .string name] w fun e w' => e = .returned (.bool true) ∧ Below w.heap.size w w' := by
  have hd : decide ((65536 : Int) < (len : Int)) = false := by simp; omega
  have hle := sumTo_le HI.jl
  have HLE := (show Hid _ from hle)
  clear hle
  have hmk := make69 len hlen
  obtain ⟨i81, i81a, i81b, i81d, i81e⟩ := info_parts info81
  go_enter Yba.func4, Yba.ntmps4
  go_wp2
  go_loop [5, 30] (fun t i => ∃ k : Nat, k ≤ len ∧ i = .int .i64 k ∧ t = .int .i64 (sumTo JL k)) (fun _ i => len - (intOf i).toNat)
  case atStart => exact ⟨0, Nat.zero_le _, rfl, rfl⟩
  case round =>
    obtain ⟨k, hk1, rfl, rfl⟩ := hrel
    have h1 := HLE.out k hk1
    by_cases hlt : k < len
    · have c3 := HI.c3 k hlt
      have hj := HI.jl k hlt
      have hli : (k : Int) < (len : Int) := by omega
      have hb1 : (sumTo JL k : Int) + (JL k : Int) ≤ 9223372036854775807 := by omega
      go_wp2
      go_light
      refine ⟨⟨k + 1, by omega, by go_num, ?_⟩, by simp [intOf]; omega⟩
      simp [sumTo]
    · have hkl : k = len := by omega
      subst hkl
      have hbig' : decide ((1048576 : Int) < (sumTo JL k : Int)) = false := by simp; omega
      go_wp2
      go_loopw [9, 10, 51] (fun h j i wr => ∃ (k2 : Nat) (RB JB : Nat → Nat) (hW jW : Int), k2 ≤ k ∧ i = .int .i64 k2 ∧ h = .int .i64 hW ∧ j = .int .i64 jW ∧ WantTo HR JL (fun i k => nmOf name (J i k)) name k2 0 hW jW ∧
          Fill2 w.heap.size k TF AG HR JL (fun i k => nmOf name (J i k)) stF name w RB JB k2 wr) (fun _ _ i _ => k - (intOf i).toNat)
      case atStart => exact ⟨0, fun _ => 0, fun _ => 0, -1, -1, Nat.zero_le _, rfl, rfl, rfl, want_start, fill2_start k TF AG HR JL _ stF name w _ _⟩
      case round =>
        obtain ⟨k2, RB, JB, hW, jW, hk2, rfl, rfl, rfl, HW, HF⟩ := hrel
        by_cases hlt : k2 < k
        · have HI2 := HI.keep HF.bel
          have c0 := HI2.c0 k2 hlt
          have c1 := HI2.c1 k2 hlt
          have c2 := HI2.c2 k2 hlt
          have c3 := HI2.c3 k2 hlt
          have hbl := HI2.blt
          have hblw := HI.blt
          have hli : (k2 : Int) < (k : Int) := by omega
          have hbb := HF.hosts.bblt
          have f0 := HF.fz (k2 * 4)
          have f1 := HF.fz (k2 * 4 + 1)
          have f2 := HF.fz (k2 * 4 + 2)
          have f3 := HF.fz (k2 * 4 + 3)
          obtain ⟨o0, r0⟩ := HF.room (k2 * 4) (by omega)
          obtain ⟨o1, r1⟩ := HF.room (k2 * 4 + 1) (by omega)
          obtain ⟨o2, r2⟩ := HF.room (k2 * 4 + 2) (by omega)
          obtain ⟨o3, r3⟩ := HF.room (k2 * 4 + 3) (by omega)
          have hn1 : w.heap.size + 1 ≠ wr.heap.size := by omega
          have hn2 : b ≠ w.heap.size + 1 := by omega
          have hjl : JL k2 ≤ 1048576 := Nat.le_trans (le_sumTo (len := k) hlt) hsm
          cases hr : HR k2
          · rw [hr] at c0
            go_wp2
            go_light
            obtain ⟨p1, p2, p3, p4, p5, p6, p7⟩ := put4 (.float .f64 (TF k2)) (.int .i64 ((k2 : Int) + 1)) (.string (AG k2)) (.pointer none) r0 r1 r2 r3 HF.fz
            have hB4 := Joins.below_alloc1 ((((wr.setCell ⟨w.heap.size + 1, k2 * 4, none⟩ (.float .f64 (TF k2))).setCell ⟨w.heap.size + 1, k2 * 4 + 1, none⟩ (.int .i64 ((k2 : Int) + 1))).setCell ⟨w.heap.size + 1, k2 * 4 + 2, none⟩ (.string (AG k2))).setCell ⟨w.heap.size + 1, k2 * 4 + 3, none⟩ (.pointer none)) (.cells #[.bool false, .float .f64 (TF k2), .string (AG k2), .slice (JA k2) (JL k2) (JC k2)] 67)
            have hc : ∀ o, _ = _ := fun o => hB4.cell (p := ⟨w.heap.size + 1, o, none⟩) (by simp [World.setCell]; omega)
            have hfz4 : ∀ o, _ = _ := fun o => hB4.frozen (p := ⟨w.heap.size + 1, o, none⟩) (by simp [World.setCell]; omega)
            obtain ⟨RB', JB', HF'⟩ := fill2_next HF hlt (p1.trans (ButAt.of hB4)) 0 0 ((hc _).trans p2) ((hc _).trans p3) ((hc _).trans p4) ((hc _).trans (by rw [hr]; exact p5)) (fun j hj => (hc j).trans (p6 j hj)) (fun o => (hfz4 o).trans (p7 o)) (fun h => by rw [hr] at h; cases h)
            exact ⟨⟨k2 + 1, RB', JB', hW, jW, by omega, by go_num, rfl, rfl, want_skip hr HW, HF'⟩, by simp [intOf]; omega⟩
          · rw [hr] at c0
            have hmk2 := make73 (JL k2) hjl
            have hcase : ∃ ja, JA k2 = ja ∧ (0 < JL k2 → ja = some ⟨JX k2, JO k2, none⟩) := ⟨_, rfl, fun h => (HI2.ja k2 hlt h).1⟩
            obtain ⟨ja, hja, hja2⟩ := hcase
            rw [hja] at c3
            clear hja
            go_wp2
            obtain ⟨W1, rfl⟩ : ∃ x, x = wr := ⟨_, rfl⟩
            go_loopw [9, 10, 80] (fun h j i wq => ∃ (k3 : Nat) (hV jV : Int), k3 ≤ JL k2 ∧ i = .int .i64 k3 ∧ h = .int .i64 hV ∧ j = .int .i64 jV ∧ WantTo HR JL (fun i k => nmOf name (J i k)) name k2 k3 hV jV ∧
                Inner (w.heap.size + 1) (k2 * 4) (.float .f64 (TF k2)) (.int .i64 ((k2 : Int) + 1)) (.string (AG k2)) (.pointer none) (.cells #[.bool true, .float .f64 (TF k2), .string (AG k2), .slice ja (JL k2) (JC k2)] 67 (0, 0)) (JL k2) (fun k => nmOf name (J k2 k)) stF ((k2 : Int) + 1) W1 k3 wq) (fun _ _ i _ => JL k2 - (intOf i).toNat)
            case atStart => exact ⟨0, hW, jW, Nat.zero_le _, rfl, rfl, rfl, HW, inner_start r0 r1 r2 r3 HF.fz hbb hjl⟩
            case round =>
              obtain ⟨k3, hV, jV, hk3, rfl, rfl, rfl, HV, HN⟩ := hrel
              by_cases hlt3 : k3 < JL k2
              · have hja3 := hja2 (by omega)
                subst hja3
                have hxlt := (HI.ja k2 hlt (by omega)).2
                have hjc := HI2.jc k2 hlt k3 hlt3
                have cj : wr.cell? ⟨JX k2, JO k2 + k3, none⟩ = some (.int .u8 (J k2 k3)) := (HN.but.cell (b := JX k2) (by omega) (by omega) _).trans hjc.1
                have hj0 := hjc.2.1
                have hj1 := hjc.2.2
                have hx0 : 0 ≤ J k2 k3 % 4 := by omega
                have hx1 : J k2 k3 % 4 < 4 := by omega
                have cn : wr.cell? ⟨w.heap.size, (J k2 k3 % 4).toNat, none⟩ = some (.string (nmOf name (J k2 k3))) := names_at ((HN.but.block w.heap.size (by omega) (by omega)).trans HF.names) _
                have q3 : wr.cell? ⟨W1.heap.size + 1 + 1, 3, none⟩ = some (.slice (some ⟨W1.heap.size + 1, 0, none⟩) k3 (JL k2)) := Joins.cell_of_block HN.rep 3
                have g3 : wr.frozen? ⟨W1.heap.size + 1 + 1, 3, none⟩ = false := Joins.unfrozen_of_block HN.rep 3
                have hli3 : (k3 : Int) < (JL k2 : Int) := by omega
                have hkk : (k3 : Int) ≤ 1048576 := by omega
                have hc : (hV < 0 ∧ ((nmOf name (J k2 k3)).toList == name.toList) = true) ∨ (hV < 0 ∧ ((nmOf name (J k2 k3)).toList == name.toList) = false) ∨ decide (hV < 0) = false := by
                  by_cases h1 : hV < 0
                  · cases h2 : ((nmOf name (J k2 k3)).toList == name.toList)
                    · exact .inr (.inl ⟨h1, rfl⟩)
                    · exact .inl ⟨h1, rfl⟩
                  · exact .inr (.inr (by simpa using h1))
                rcases hc with ⟨hneg, heq⟩ | ⟨hneg, heq⟩ | hneg
                · go_wp2_with (at_builtin; go_must (refine wpList_append_fits _ rfl _ _ 73 rfl (W1.heap.size + 1) 81 i81 12 Yba.underlying73 i81a i81d (W1.heap.size + 1) k3 (JL k2) (recs (fun k => nmOf name (J k2 k)) stF ((k2 : Int) + 1) k3) rfl (World.ownsRow.alloc HN.own _) ⟨wr.heap.size, 0, none⟩ 1 1 (rjL (nmOf name (J k2 k3)) (stF k3) ((k2 : Int) + 1)) rfl rfl (cells_new wr _ _) (rjL_one _ _ _) (by omega) ?_); intro w1 hown1 hg1; obtain ⟨q4, g4⟩ := rep_after HN hg1)
                  go_light
                  exact ⟨⟨k3 + 1, k2, k3, by omega, by go_num, rfl, rfl, want_hit hr hlt3 (by simpa using heq) hneg HV, inner_step HN hbb hown1 hg1⟩, by simp [intOf]; omega⟩
                · go_wp2_with (at_builtin; go_must (refine wpList_append_fits _ rfl _ _ 73 rfl (W1.heap.size + 1) 81 i81 12 Yba.underlying73 i81a i81d (W1.heap.size + 1) k3 (JL k2) (recs (fun k => nmOf name (J k2 k)) stF ((k2 : Int) + 1) k3) rfl (World.ownsRow.alloc HN.own _) ⟨wr.heap.size, 0, none⟩ 1 1 (rjL (nmOf name (J k2 k3)) (stF k3) ((k2 : Int) + 1)) rfl rfl (cells_new wr _ _) (rjL_one _ _ _) (by omega) ?_); intro w1 hown1 hg1; obtain ⟨q4, g4⟩ := rep_after HN hg1)
                  go_light
                  exact ⟨⟨k3 + 1, hV, jV, by omega, by go_num, rfl, rfl, want_miss (.inr (by simpa using heq)) HV, inner_step HN hbb hown1 hg1⟩, by simp [intOf]; omega⟩
                · go_wp2_with (at_builtin; go_must (refine wpList_append_fits _ rfl _ _ 73 rfl (W1.heap.size + 1) 81 i81 12 Yba.underlying73 i81a i81d (W1.heap.size + 1) k3 (JL k2) (recs (fun k => nmOf name (J k2 k)) stF ((k2 : Int) + 1) k3) rfl (World.ownsRow.alloc HN.own _) ⟨wr.heap.size, 0, none⟩ 1 1 (rjL (nmOf name (J k2 k3)) (stF k3) ((k2 : Int) + 1)) rfl rfl (cells_new wr _ _) (rjL_one _ _ _) (by omega) ?_); intro w1 hown1 hg1; obtain ⟨q4, g4⟩ := rep_after HN hg1)
                  go_light
                  exact ⟨⟨k3 + 1, hV, jV, by omega, by go_num, rfl, rfl, want_miss (.inl (by simpa using hneg)) HV, inner_step HN hbb hown1 hg1⟩, by simp [intOf]; omega⟩
              · have hk3e : k3 = JL k2 := by omega
                have HV2 := want_next hk3e HV
                have HN3 := HN.c3
                have hfz3 := HN.fz (k2 * 4 + 3)
                go_wp2
                go_light
                subst hk3e
                obtain ⟨RB', JB', HF'⟩ := inner_end HF hlt hr HN
                exact ⟨⟨k2 + 1, RB', JB', hV, jV, by omega, by go_num, rfl, rfl, HV2, HF'⟩, by simp [intOf]; omega⟩
        · have hk2k : k2 = k := by omega
          subst hk2k
          have hmk4 := make69 k2 hlen
          go_wp2
          obtain ⟨W1, rfl⟩ : ∃ x, x = wr := ⟨_, rfl⟩
          go_loopw [126] (fun i wq => ∃ k4 : Nat, k4 ≤ k2 ∧ i = .int .i64 k4 ∧ Copy k2 HR RB W1 k4 wq) (fun i _ => k2 - (intOf i).toNat)
          case atStart => exact ⟨0, Nat.zero_le _, rfl, copy_start k2 HR RB W1⟩
          case round =>
            obtain ⟨k4, hk4, rfl, HC⟩ := hrel
            have HH4 := HF.hosts.keep HC.bel
            by_cases hlt4 : k4 < k2
            · have c0 := HH4.h0 k4 hlt4
              have c1 := HH4.h1 k4 hlt4
              have c2 := HH4.h2 k4 hlt4
              have c3 := HH4.h3 k4 hlt4
              have f0 := HC.fz (k4 * 4)
              have f1 := HC.fz (k4 * 4 + 1)
              have f2 := HC.fz (k4 * 4 + 2)
              have f3 := HC.fz (k4 * 4 + 3)
              obtain ⟨o0, r0⟩ := HC.room (k4 * 4) (by omega)
              obtain ⟨o1, r1⟩ := HC.room (k4 * 4 + 1) (by omega)
              obtain ⟨o2, r2⟩ := HC.room (k4 * 4 + 2) (by omega)
              obtain ⟨o3, r3⟩ := HC.room (k4 * 4 + 3) (by omega)
              have hli4 : (k4 : Int) < (k2 : Int) := by omega
              have hbb := HF.hosts.bblt
              have hn4 : w.heap.size + 1 ≠ W1.heap.size := by omega
              have hst := copy_step HC hlt4 (.float .f64 (TF k4)) (.int .i64 ((k4 : Int) + 1)) (.string (AG k4))
              generalize (if HR k4 = true then some (⟨RB k4, 0, none⟩ : Addr) else none) = pp at c3 hst
              clear HH4
              go_wp2
              go_light
              exact ⟨⟨k4 + 1, by omega, by go_num, hst⟩, by simp [intOf]; omega⟩
            · have hk4k : k4 = k2 := by omega
              subst hk4k
              go_wp2_with fail
              refine (job_any (w.heap.size + 1) k4 k4 TF AG HR RB JB JL (fun i k => nmOf name (J i k)) stF name _ hlen (fun i hi _ => Nat.le_trans (le_sumTo (len := k4) hi) hsm) HH4).mono ?_
              rintro e w5 ⟨vh, vj, ok, rfl, HJT, hb5⟩
              obtain ⟨fa, fb, fc, fd, fn, fs, ft, rfl, rfl, HFin⟩ := job_final HJT HW
              clear HJT
              have hs5 : W1.heap.size < w5.heap.size := Nat.lt_of_lt_of_le HC.size hb5.size
              have hW6b := Joins.below_alloc2 w5 (.cells #[.float .f64 fa, .int .i64 fb, .string fc, .pointer fd] 72) (.cells #[.string fn, .float .f64 fs, .string ⟨#[]⟩, .float .f64 0, .float .f64 0, .float .f64 0, .float .f64 0, .float .f64 0, .int .i64 0, .float .f64 0, .int .i64 ft, .pointer none] 81)
              have hg1 : ((w5.alloc (.cells #[.float .f64 fa, .int .i64 fb, .string fc, .pointer fd] 72)).alloc (.cells #[.string fn, .float .f64 fs, .string ⟨#[]⟩, .float .f64 0, .float .f64 0, .float .f64 0, .float .f64 0, .float .f64 0, .int .i64 0, .float .f64 0, .int .i64 ft, .pointer none] 81)).heap[w5.heap.size]? = some (.cells #[.float .f64 fa, .int .i64 fb, .string fc, .pointer fd] 72 (0, 0)) := by rw [Below.heap_alloc _ _ _ (by simp)]; exact (MapKept.heap_alloc w5 _).1
              have hg2 : ((w5.alloc (.cells #[.float .f64 fa, .int .i64 fb, .string fc, .pointer fd] 72)).alloc (.cells #[.string fn, .float .f64 fs, .string ⟨#[]⟩, .float .f64 0, .float .f64 0, .float .f64 0, .float .f64 0, .float .f64 0, .int .i64 0, .float .f64 0, .int .i64 ft, .pointer none] 81)).heap[w5.heap.size + 1]? = some (.cells #[.string fn, .float .f64 fs, .string ⟨#[]⟩, .float .f64 0, .float .f64 0, .float .f64 0, .float .f64 0, .float .f64 0, .int .i64 0, .float .f64 0, .int .i64 ft, .pointer none] 81 (0, 0)) := heap_alloc_two w5 _ _
              go_wp2
              generalize hW6 : (w5.alloc (.cells #[.float .f64 fa, .int .i64 fb, .string fc, .pointer fd] 72)).alloc (.cells #[.string fn, .float .f64 fs, .string ⟨#[]⟩, .float .f64 0, .float .f64 0, .float .f64 0, .float .f64 0, .float .f64 0, .int .i64 0, .float .f64 0, .int .i64 ft, .pointer none] 81) = W6 at *
              clear hW6
              have hB56 : Below wr.heap.size wr W6 := hb5.trans (hW6b.mono hb5.size)
              have HH6 := HH4.keep hB56
              have hB16 : Below W1.heap.size W1 W6 := HC.bel.trans (hB56.mono (Nat.le_of_lt HC.size))
              have hB6 : Below w.heap.size w W6 := HF.bel.trans (hB16.mono HF.bel.size)
              have HI6 := HI.keep hB6
              have hnm6 : W6.heap[w.heap.size]? = some (namesObj name) := (hB16.block w.heap.size (by have := HF.hosts.bblt; omega)).trans HF.names
              have hsv6 : ∀ i, i < k4 → W6.cell? ⟨W1.heap.size, i * 4 + 3, none⟩ = some (.pointer (if HR i = true then some ⟨RB i, 0, none⟩ else none)) := fun i hi => (hB56.cell (p := ⟨W1.heap.size, i * 4 + 3, none⟩) HC.size).trans (HC.done i hi)
              have HSV : Hid (∀ i, i < k4 → W6.cell? ⟨W1.heap.size, i * 4 + 3, none⟩ = some (.pointer (if HR i = true then some ⟨RB i, 0, none⟩ else none))) := hsv6
              have HG1 : Hid (W6.heap[w5.heap.size]? = some (.cells #[.float .f64 fa, .int .i64 fb, .string fc, .pointer fd] 72 (0, 0))) := hg1
              have HG2 : Hid (W6.heap[w5.heap.size + 1]? = some (.cells #[.string fn, .float .f64 fs, .string ⟨#[]⟩, .float .f64 0, .float .f64 0, .float .f64 0, .float .f64 0, .float .f64 0, .int .i64 0, .float .f64 0, .int .i64 ft, .pointer none] 81 (0, 0))) := hg2
              have HNM : Hid (W6.heap[w.heap.size]? = some (namesObj name)) := hnm6
              clear hsv6 hg1 hg2 hnm6 HC HH4 HF hb5 hW6b hB56 hB16 hmk hmk4
              have hfb := fbits
              have hpe := neq_same70
              go_loopw [146] (fun i wq => ∃ k5 m : Nat, k5 ≤ k4 ∧ i = .int .i64 k5 ∧ wq = W6.drewN m) (fun i _ => k4 - (intOf i).toNat)
              case atStart => exact ⟨0, 0, Nat.zero_le _, rfl, rfl⟩
              case round =>
                obtain ⟨k5, m, hk5, rfl, rfl⟩ := hrel
                by_cases hlt5 : k5 < k4
                · have c0 := HH6.h0 k5 hlt5
                  have c1 := HH6.h1 k5 hlt5
                  have c2 := HH6.h2 k5 hlt5
                  have c3 := HH6.h3 k5 hlt5
                  have s3 := HSV.out k5 hlt5
                  have d1 := HI6.c1 k5 hlt5
                  have d2 := HI6.c2 k5 hlt5
                  have d3 := HI6.c3 k5 hlt5
                  have hli5 : (k5 : Int) < (k4 : Int) := by omega
                  cases hr : HR k5
                  · rw [hr] at c3 s3
                    simp only [Bool.false_eq_true, if_false] at c3 s3
                    go_wp2
                    go_quiet (fail)
                    go_wp2
                    go_light
                    exact ⟨⟨k5 + 1, m + nq, by omega, by go_num, rfl⟩, by simp [intOf]; omega⟩
                  · rw [hr] at c3 s3
                    simp only [if_true] at c3 s3
                    have q3 := HH6.r3 k5 hlt5 hr
                    have hjb := HH6.jobs k5 hlt5 hr
                    have hcase : ∃ ja, JA k5 = ja ∧ (0 < JL k5 → ja = some ⟨JX k5, JO k5, none⟩) := ⟨_, rfl, fun h => (HI6.ja k5 hlt5 h).1⟩
                    obtain ⟨ja, hja, hja2⟩ := hcase
                    rw [hja] at d3
                    clear hja
                    go_wp2
                    go_quiet (fail)
                    go_wp2
                    go_loopw [223] (fun i wq => ∃ k6 m : Nat, k6 ≤ JL k5 ∧ i = .int .i64 k6 ∧ wq = W6.drewN m) (fun i _ => JL k5 - (intOf i).toNat)
                    case atStart => exact ⟨0, m + nq, Nat.zero_le _, rfl, by simp⟩
                    case round =>
                      obtain ⟨k6, m6, hk6, rfl, rfl⟩ := hrel
                      by_cases hlt6 : k6 < JL k5
                      · have hja3 := hja2 (by omega)
                        subst hja3
                        have e0 := hjb.c0 k6 hlt6
                        have e1 : W6.cell? ⟨JB k5, k6 * 12 + 1, none⟩ = some (.float .f64 (floatOfInt .f64 (k6 : Int))) := hjb.c1 k6 hlt6
                        have e10 := hjb.c10 k6 hlt6
                        have hjc := HI6.jc k5 hlt5 k6 hlt6
                        have cj := hjc.1
                        have hj0 := hjc.2.1
                        have hj1 := hjc.2.2
                        have hx0 : 0 ≤ J k5 k6 % 4 := by omega
                        have hx1 : J k5 k6 % 4 < 4 := by omega
                        have cn := names_at HNM.out (J k5 k6)
                        have hfe : Ieee.double.order (floatOfInt .f64 (k6 : Int)) (floatOfInt .f64 (k6 : Int)) = some .eq := order_self k6
                        have hfe2 : (FloatKind.f64.format.order (floatOfInt .f64 (k6 : Int)) (floatOfInt .f64 (k6 : Int)) != some .eq) = false := by
                          show (Ieee.double.order (floatOfInt .f64 (k6 : Int)) (floatOfInt .f64 (k6 : Int)) != some .eq) = false
                          rw [hfe]; rfl
                        clear hfe hjc
                        have hli6 : (k6 : Int) < (JL k5 : Int) := by omega
                        have hkk6 : (k6 : Int) ≤ 140737488351232 := by have := HI6.jl k5 hlt5; omega
                        go_wp2
                        go_quiet (fail)
                        go_wp2
                        go_light
                        exact ⟨⟨k6 + 1, m6 + nq, by omega, by go_num, rfl⟩, by simp [intOf]; omega⟩
                      · go_wp2
                        go_light
                        exact ⟨⟨k5 + 1, m6, by omega, by go_num, rfl⟩, by simp [intOf]; omega⟩
                · have hk5k : k5 = k4 := by omega
                  subst hk5k
                  have ga : ∀ o, W6.cell? ⟨w5.heap.size, o, none⟩ = (#[.float .f64 fa, .int .i64 fb, .string fc, .pointer fd] : Array Value)[o]? := fun o => Joins.cell_of_block HG1.out o
                  have gb : ∀ o, W6.cell? ⟨w5.heap.size + 1, o, none⟩ = (#[.string fn, .float .f64 fs, .string ⟨#[]⟩, .float .f64 0, .float .f64 0, .float .f64 0, .float .f64 0, .float .f64 0, .int .i64 0, .float .f64 0, .int .i64 ft, .pointer none] : Array Value)[o]? := fun o => Joins.cell_of_block HG2.out o
                  clear HG1 HG2
                  rcases HFin with ⟨rfl, rfl, rfl, rfl, rfl, rfl, rfl, rfl, rfl⟩ | ⟨rfl, i, q, rfl, rfl, hi, hr, hne, rfl, rfl, rfl, rfl, rfl, rfl⟩
                  · go_wp2
                    go_ret
                    exact ⟨rfl, below_drewN hB6 _⟩
                  · have c3 := HH6.h3 i hi
                    rw [hr] at c3
                    simp only [if_true] at c3
                    have d1 := HI6.c1 i hi
                    have d2 := HI6.c2 i hi
                    have hii : (i : Int) < (k5 : Int) := by omega
                    have hne2 : (fn.toList == name.toList) = true := by simpa using hne
                    have hfe : Ieee.double.order (floatOfInt .f64 (q : Int)) (floatOfInt .f64 (q : Int)) = some .eq := order_self q
                    have hfe2 : (FloatKind.f64.format.order (floatOfInt .f64 (q : Int)) (floatOfInt .f64 (q : Int)) == some .eq) = true := by
                      show (Ieee.double.order (floatOfInt .f64 (q : Int)) (floatOfInt .f64 (q : Int)) == some .eq) = true
                      rw [hfe]; rfl
                    clear hfe hne
                    unfold stF at gb
                    go_wp2
                    go_quiet (fail)
                    go_wp2
                    go_ret
                    exact ⟨rfl, below_drewN hB6 _⟩

end Go.Proofs.Ybulkdvju
