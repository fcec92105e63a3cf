import Derived.Test.YbulkdvieRep
namespace Go.Proofs.Ybulkdvie
open Go.RowKit Go.Maps

def blankM (len : Nat) : Array Value := madeCells #[.string ⟨#[]⟩, .nilIface] (len * 2)
theorem info48 : (Yba.prog.info? 48).map (fun i => (i.zero, i.size, i.bytes)) = some (some (.agg #[.string ⟨#[]⟩, .nilIface]), 2, 32) := by kernel_rfl
theorem make46 (len : Nat) (h : len ≤ 4096) (w : World) : (Instr.makeSlice 46 (.int .i64 (len : Int)) (.int .i64 (len : Int))).run Yba.prog w = .ok (.slice (some ⟨w.heap.size, 0, none⟩) len len) (w.alloc (.cells (blankM len) 48)) := by
  obtain ⟨i, h1, h2, h3, h4⟩ := info_parts info48
  have hr := run_make (P := Yba.prog) w 46 48 i _ Yba.underlying46 h1 h2 .i64 .i64 len len (by omega) (by omega) (by rw [h4]; omega) (by omega)
  rw [hr, h3]
  simp [blankM, Value.cells]

theorem lawC_many (a : Option Addr) (len cap : Nat) (w : World) (h : 4096 < len) :
    Calls Yba.prog 4 #[.slice a len cap] w fun e w' => e = .returned (.bool true) ∧ Below w.heap.size w w' := by
  go_enter Yba.func4, Yba.ntmps4
  go_wp2
  go_ret
  exact ⟨rfl, Below.refl _ _⟩

/-- Behind k rounds of the first loop. -/
structure FillM (len : Nat) (N : Nat → ByteArray) (w : World) (k : Nat) (wr : World) : Prop where
  bel : Below w.heap.size w wr
  size : wr.heap.size = w.heap.size + 1
  done : ∀ i, i < k → wr.cell? ⟨w.heap.size, i * 2, none⟩ = some (.string (N i)) ∧ wr.cell? ⟨w.heap.size, i * 2 + 1, none⟩ = some .nilIface
  room : ∀ j, j < len * 2 → ∃ v, wr.cell? ⟨w.heap.size, j, none⟩ = some v
  fz : ∀ o, wr.frozen? ⟨w.heap.size, o, none⟩ = false

theorem fillM_start (len : Nat) (N : Nat → ByteArray) (w : World) : FillM len N w 0 (w.alloc (.cells (blankM len) 48)) := by
  refine ⟨Joins.below_alloc1 _ _, by simp, fun i hi => absurd hi (Nat.not_lt_zero _), fun j hj => ?_, fun o => ?_⟩
  · have e : (w.alloc (.cells (blankM len) 48)).cell? ⟨w.heap.size, j, none⟩ = (blankM len)[j]? :=
      Joins.cell_alloc_mark_at _ _ _ (0, 0) _ _ (by simp)
    rw [e]
    exact ⟨_, Array.getElem?_eq_getElem (by unfold blankM; rw [size_madeCells]; exact hj)⟩
  · exact Joins.unfrozen_of_block (MapKept.heap_alloc w _).1 o

theorem fillM_step {len : Nat} {N : Nat → ByteArray} {w : World} {k : Nat} {wr : World} (h : FillM len N w k wr) (hk : k < len) :
    FillM len N w (k + 1) ((wr.setCell ⟨w.heap.size, k * 2, none⟩ (.string (N k))).setCell ⟨w.heap.size, k * 2 + 1, none⟩ .nilIface) := by
  obtain ⟨hb, hs, hd, hr, hf⟩ := h
  obtain ⟨v0, r0⟩ := hr (k * 2) (by omega)
  obtain ⟨v1, r1⟩ := hr (k * 2 + 1) (by omega)
  have hc : ∀ j, ((wr.setCell ⟨w.heap.size, k * 2, none⟩ (.string (N k))).setCell ⟨w.heap.size, k * 2 + 1, none⟩ .nilIface).cell? ⟨w.heap.size, j, none⟩ =
      if j = k * 2 + 1 then some .nilIface else if j = k * 2 then some (.string (N k)) else wr.cell? ⟨w.heap.size, j, none⟩ := by
    intro j
    by_cases h1 : j = k * 2 + 1
    · subst h1; simp [go_sem, r1]
    · by_cases h0 : j = k * 2
      · subst h0; simp [go_sem, r0]
      · simp [go_sem, h0, h1]
  refine ⟨((hb.setCell (by simp) _).setCell (by simp) _), by simpa [World.setCell] using hs, fun i hi => ?_, fun j hj => ?_, fun o => ?_⟩
  · rw [hc, hc]
    by_cases e : i = k
    · subst e; simp
    · have h1 : i * 2 ≠ k * 2 + 1 := by omega
      have h2 : i * 2 ≠ k * 2 := by omega
      have h3 : i * 2 + 1 ≠ k * 2 + 1 := by omega
      have h4 : i * 2 + 1 ≠ k * 2 := by omega
      rw [if_neg h1, if_neg h2, if_neg h3, if_neg h4]
      exact hd i (by omega)
  · rw [hc]
    split
    · exact ⟨_, rfl⟩
    · split
      · exact ⟨_, rfl⟩
      · exact hr j hj
  · rw [World.frozen?_setCell, World.frozen?_setCell]; exact hf o

/-- The state of the search behind j rounds: not found, or found at the round before. -/
def Seek (N : Nat → ByteArray) (len j : Nat) (s : ByteArray) (ok found : Bool) : Prop :=
  (found = false ∧ ok = false ∧ s = ⟨#[]⟩ ∧ j ≤ len ∧ ∀ i, i < j → dup N i = false) ∨ (found = true ∧ ok = true ∧ ∃ q, j = q + 1 ∧ q < len ∧ dup N q = true ∧ (∀ i, i < q → dup N i = false) ∧ s = N q)

theorem seek_cases {N : Nat → ByteArray} {len j : Nat} {s : ByteArray} {ok found : Bool} (h : Seek N len j s ok found) :
    (found = false ∧ ok = false ∧ s = ⟨#[]⟩ ∧ j < len ∧ ∀ i, i < j → dup N i = false) ∨ (Rep N len s ok ∧ ((found = true ∧ j < len) ∨ (found = true ∧ ¬ j < len) ∨ (found = false ∧ ¬ j < len))) := by
  rcases h with ⟨rfl, rfl, rfl, hj, hd⟩ | ⟨rfl, rfl, q, rfl, hq, hd, hm, rfl⟩
  · by_cases e : j < len
    · exact .inl ⟨rfl, rfl, rfl, e, hd⟩
    · refine .inr ⟨.inr ⟨rfl, rfl, fun i hi => hd i (by omega)⟩, .inr (.inr ⟨rfl, e⟩)⟩
  · refine .inr ⟨.inl ⟨rfl, q, hq, hd, hm, rfl⟩, ?_⟩
    by_cases e : q + 1 < len
    · exact .inl ⟨rfl, e⟩
    · exact .inr (.inl ⟨rfl, e⟩)

set_option maxHeartbeats 400000 in
theorem lawC_some (b off len cap : Nat) (N : Nat → ByteArray) (w : World) (hl0 : 0 < len) (hlen : len ≤ 4096) (hb : b < w.heap.size) (hsz : ∀ i, i < len → (N i).size ≤ maxLen)
    (hk : ∀ i, i < len → w.cell? ⟨b, off + i, none⟩ = some (.string (N i))) :
    Calls Yba.prog 4 #[.slice (some ⟨b, off, none⟩) len cap] w fun e w' => e = .returned (.bool true) ∧ Below w.heap.size w w' := by
  have hmk := make46 len hlen
  have hd : decide ((4096 : Int) < (len : Int)) = false := by simp; omega
  go_enter Yba.func4, Yba.ntmps4
  go_wp2
  go_loopw [21] (fun i wr => ∃ k : Nat, k ≤ len ∧ i = .int .i64 k ∧ FillM len N w k wr) (fun i _ => len - (intOf i).toNat)
  case atStart => exact ⟨0, Nat.zero_le _, rfl, fillM_start len N w⟩
  case round =>
    obtain ⟨k, hk1, rfl, HF⟩ := hrel
    by_cases hlt : k < len
    · have c0 : wr.cell? ⟨b, off + k, none⟩ = some (.string (N k)) := (HF.bel.cell (p := ⟨b, off + k, none⟩) hb).trans (hk k hlt)
      have f0 := HF.fz (k * 2)
      have f1 := HF.fz (k * 2 + 1)
      obtain ⟨o0, r0⟩ := HF.room (k * 2) (by omega)
      obtain ⟨o1, r1⟩ := HF.room (k * 2 + 1) (by omega)
      generalize hN : N k = nk at c0
      have HN : Hid (N k = nk) := hN
      clear hN
      have hli : (k : Int) < (len : Int) := by omega
      have hbw : b ≠ w.heap.size := by omega
      go_wp2
      go_light
      refine ⟨⟨k + 1, by omega, by go_num, ?_⟩, by simp [intOf]; omega⟩
      rw [← HN.out]
      exact fillM_step HF hlt
    · have hkl : k = len := by omega
      subst hkl
      have ks : ∀ i, i < k → wr.cell? ⟨b, off + i, none⟩ = some (.string (N i)) := fun i hi => (HF.bel.cell (p := ⟨b, off + i, none⟩) hb).trans (hk i hi)
      have HK : Hid (∀ i, i < k → wr.cell? ⟨b, off + i, none⟩ = some (.string (N i))) := ks
      clear ks
      go_wp2
      go_loopw [5, 6, 7, 8] (fun s o f j wq => ∃ (jn m : Nat) (sb : ByteArray) (ob fb : Bool), s = .string sb ∧ o = .bool ob ∧ f = .bool fb ∧ j = .int .i64 jn ∧ Seek N k jn sb ob fb ∧ wq = wr.drewN m) (fun _ _ _ j _ => k - (intOf j).toNat)
      case atStart => exact ⟨0, 0, ⟨#[]⟩, false, false, rfl, rfl, rfl, rfl, .inl ⟨rfl, rfl, rfl, Nat.zero_le _, fun i hi => absurd hi (Nat.not_lt_zero _)⟩, rfl⟩
      case round =>
        obtain ⟨jn, m, sb, ob, fb, rfl, rfl, rfl, rfl, HQ, rfl⟩ := hrel
        have hc := seek_cases HQ
        clear HQ
        rcases hc with ⟨rfl, rfl, rfl, hj, HD⟩ | ⟨HR, hh⟩
        · have hji : (jn : Int) < (k : Int) := by omega
          go_wp2
          go_loopw [5, 6, 7, 9] (fun s o f i wq => ∃ (ik m : Nat), s = .string ⟨#[]⟩ ∧ o = .bool false ∧ f = .bool false ∧ i = .int .i64 ik ∧ ik ≤ jn ∧ (∀ q, q < ik → (N q).toList ≠ (N jn).toList) ∧ wq = wr.drewN m) (fun _ _ _ i _ => jn - (intOf i).toNat)
          case atStart => exact ⟨0, m, rfl, rfl, rfl, rfl, Nat.zero_le _, fun q hq => absurd hq (Nat.not_lt_zero _), rfl⟩
          case round =>
            obtain ⟨ik, m2, rfl, rfl, rfl, rfl, hi, HI, rfl⟩ := hrel
            by_cases hij : ik < jn
            · have c0 := HK.out ik (by omega)
              have c1 := HK.out jn hj
              have hik : (ik : Int) < (k : Int) := by omega
              have hij' : (ik : Int) < (jn : Int) := by omega
              cases heq : ((N ik).toList == (N jn).toList)
              · go_wp2
                go_quiet (fail)
                go_wp2
                go_light
                refine ⟨⟨ik + 1, m2 + nq, rfl, rfl, rfl, by go_num, by omega, ?_, rfl⟩, by simp [intOf]; omega⟩
                intro q hq
                by_cases e : q = ik
                · subst e; simpa using heq
                · exact HI q (by omega)
              · go_wp2
                go_quiet (fail)
                go_wp2
                go_light
                refine ⟨⟨jn + 1, m2 + nq, _, _, _, rfl, rfl, rfl, by go_num, .inr ⟨rfl, rfl, jn, rfl, hj, (dup_iff N jn).2 ⟨ik, hij, by simpa using heq⟩, HD, rfl⟩, rfl⟩, by simp [intOf]; omega⟩
            · go_wp2
              go_light
              have hdn : dup N jn = false := dup_not N jn fun q hq => HI q (by omega)
              refine ⟨⟨jn + 1, m2, _, _, _, rfl, rfl, rfl, by go_num, .inl ⟨rfl, rfl, rfl, by omega, fun i hi2 => ?_⟩, rfl⟩, by simp [intOf]; omega⟩
              by_cases e : i = jn
              · subst e; exact hdn
              · exact HD i (by omega)
        · have hsz1 := HF.size
          have hB1 := HF.bel
          have hdone := HF.done
          have HDN : Hid (∀ i, i < k → wr.cell? ⟨w.heap.size, i * 2, none⟩ = some (.string (N i)) ∧ wr.cell? ⟨w.heap.size, i * 2 + 1, none⟩ = some .nilIface) := hdone
          clear hdone HF
          have hlw : w.heap.size < wr.heap.size := by omega
          have hlb : b < wr.heap.size := by omega
          clear hsz1
          rcases hh with ⟨rfl, hx⟩ | ⟨rfl, hx⟩ | ⟨rfl, hx⟩
          all_goals
            go_wp2_with fail
            refine (repeated_any w.heap.size k N _ hlen ?_ hsz ?_).mono ?_
            · exact hlw
            · exact HDN.out
            rintro e w2 ⟨s2, ok2, rfl, HR2, hb2⟩
            obtain ⟨rfl, rfl⟩ := HR2.unique HR
            have hB2 : Below w.heap.size w w2 := (below_drewN hB1 m).trans (hb2.mono (by simp; omega))
            have ko : ∀ i, i < k → w2.cell? ⟨w.heap.size, i * 2, none⟩ = some (.string (N i)) ∧ w2.cell? ⟨w.heap.size, i * 2 + 1, none⟩ = some .nilIface := by
              intro i hi
              rw [hb2.cell (p := ⟨w.heap.size, i * 2, none⟩) hlw, hb2.cell (p := ⟨w.heap.size, i * 2 + 1, none⟩) hlw]
              exact HDN.out i hi
            have ks2 : ∀ i, i < k → w2.cell? ⟨b, off + i, none⟩ = some (.string (N i)) := by
              intro i hi
              rw [hb2.cell (p := ⟨b, off + i, none⟩) hlb]
              exact HK.out i hi
            have HKO : Hid (∀ i, i < k → w2.cell? ⟨w.heap.size, i * 2, none⟩ = some (.string (N i)) ∧ w2.cell? ⟨w.heap.size, i * 2 + 1, none⟩ = some .nilIface) := ko
            have HKS : Hid (∀ i, i < k → w2.cell? ⟨b, off + i, none⟩ = some (.string (N i))) := ks2
            clear ko ks2 hb2 HR2
            go_wp2
            go_loopw [81] (fun i wq => ∃ j m : Nat, j ≤ k ∧ i = .int .i64 j ∧ wq = w2.drewN m) (fun i _ => k - (intOf i).toNat)
            case atStart => exact ⟨0, 0, Nat.zero_le _, rfl, rfl⟩
            case round =>
              obtain ⟨j, m3, hj, rfl, rfl⟩ := hrel
              by_cases hjl : j < k
              · obtain ⟨a0, a1⟩ := HKO.out j hjl
                have b0 := HKS.out j hjl
                have hji : (j : Int) < (k : Int) := by omega
                go_wp2
                go_quiet (fail)
                go_wp2
                go_light
                exact ⟨⟨j + 1, m3 + nq, by omega, by go_num, rfl⟩, by simp [intOf]; omega⟩
              · have hjk : j = k := by omega
                subst hjk
                go_wp2
                go_ret
                exact ⟨rfl, below_drewN hB2 _⟩

set_option maxHeartbeats 400000 in
theorem lawC_zero (a : Option Addr) (cap : Nat) (w : World) :
    Calls Yba.prog 4 #[.slice a 0 cap] w fun e w' => e = .returned (.bool true) ∧ Below w.heap.size w w' := by
  have hmk : ∀ w, (Instr.makeSlice 46 (.int .i64 0) (.int .i64 0)).run Yba.prog w = .ok (.slice (some ⟨w.heap.size, 0, none⟩) 0 0) (w.alloc (.cells (blankM 0) 48)) := fun w => make46 0 (by omega) w
  go_enter Yba.func4, Yba.ntmps4
  go_wp2
  refine wp_loop_rounds 1 ?_
  rw [rounds_succ]
  go_wp2
  refine wp_loop_rounds 1 ?_
  rw [rounds_succ]
  go_wp2_with fail
  refine (repeated_any w.heap.size 0 (fun _ => ⟨#[]⟩) _ (by omega) ?_ ?_ ?_).mono ?_
  · simp
  · intro i hi; omega
  · intro i hi; omega
  rintro e w2 ⟨s2, ok2, rfl, HR2, hb2⟩
  have hR : Rep (fun _ => ⟨#[]⟩) 0 ⟨#[]⟩ false := .inr ⟨rfl, rfl, fun i hi => by omega⟩
  obtain ⟨rfl, rfl⟩ := HR2.unique hR
  have hB2 : Below w.heap.size w w2 := (Joins.below_alloc1 w _).trans (hb2.mono (by simp))
  clear HR2 hR hb2
  go_wp2
  refine wp_loop_rounds 1 ?_
  rw [rounds_succ]
  go_wp2
  go_ret
  exact ⟨rfl, hB2⟩

end Go.Proofs.Ybulkdvie
