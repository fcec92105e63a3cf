import Derived.Test.YbulkdvjuTake
namespace Go.Proofs.Ybulkdvju
open Go.RowKit
attribute [local go_sem] run_store_float

set_option maxRecDepth 100000 in
set_option maxHeartbeats 2000000 in
theorem take_any (has : Bool) (hb rb g n cap base0 base m cc : Nat) (V : Nat → Value) (uv : Value) (NM CT : Nat → ByteArray) (T CB MX : Nat → Nat) (xs : List Value) (cT : Nat) (cj ct : ByteArray) (nano wt : Int) (w : World)
    (hn0 : 0 < n) (hn : n ≤ 65536) (hm : m ≤ 65536) (hH : w.heap[hb]? = some (hObj rb V (.slice (some ⟨g, 0, none⟩) n cap) uv)) (hT : w.ownsRow base0 50 15 (.slice (some ⟨g, 0, none⟩) n cap) n (tks NM T CB MX n))
    (hU : w.ownsRow base 50 15 uv m xs) (hgu : uv.ownBlock ≠ some g) (hbase : base ≤ w.heap.size) (hcb : ∀ i, i < n → w.heap[CB i]? = some (.cells #[.string (CT i)] 9 (0, 0)))
    (hcc : has = true → w.heap[cc]? = some (.cells #[.string ct] 9 (0, 0))) :
    Calls Yba.prog 9 #[.pointer (some ⟨hb, 0, none⟩), .agg #[.float .f64 cT, .string cj, .pointer (if has = true then some ⟨cc, 0, none⟩ else none), .int .i64 nano, .pointer none, .int .i64 wt, .pointer none]] w
      fun e w' => (e = .returned (.bool false) ∧ (∀ j, j < n → ¬ Mt has NM CT cj ct j) ∧ Below w.heap.size w w') ∨
        (e = .returned (.bool true) ∧ ∃ k lb uv', Took has hb rb g n cap base m lb V uv NM CT T CB MX xs cT cj ct (if has = true then some ⟨cc, 0, none⟩ else none) nano wt w k uv' w') := by
  have hlt : ∀ {i : Nat} {o : Obj}, w.heap[i]? = some o → i < w.heap.size := fun {i o} h => by
    rcases Nat.lt_or_ge i w.heap.size with h' | h'
    · exact h'
    · rw [Array.getElem?_eq_none h'] at h; cases h
  have hbl := hlt hH
  have hgl : g < w.heap.size := (hT.lt g rfl).2
  have h10 : w.cell? ⟨hb, 10, none⟩ = some (.slice (some ⟨g, 0, none⟩) n cap) := Joins.cell_of_block hH 10
  have hne : hb ≠ w.heap.size := by omega
  obtain ⟨cpv, hcpv⟩ : ∃ x : Option Addr, x = (if has = true then some ⟨cc, 0, none⟩ else none) := ⟨_, rfl⟩
  rw [← hcpv]
  have HT := (show Hid (w.ownsRow base0 50 15 (.slice (some ⟨g, 0, none⟩) n cap) n (tks NM T CB MX n)) from hT)
  have HU := (show Hid (w.ownsRow base 50 15 uv m xs) from hU)
  have HCP := (show Hid (cpv = (if has = true then some ⟨cc, 0, none⟩ else none)) from hcpv)
  have HCC := (show Hid (has = true → w.heap[cc]? = some (.cells #[.string ct] 9 (0, 0))) from hcc)
  clear hT hU hcpv hcc
  go_enter Yba.func9, Yba.ntmps9
  go_wp2
  go_loopw [12] (fun i wr => ∃ k : Nat, k ≤ n ∧ i = .int .i64 k ∧ (∀ j, j < k → ¬ Mt has NM CT cj ct j) ∧ Below w.heap.size w wr ∧ wr.heap[w.heap.size]? = some (.cells #[.float .f64 cT, .string cj, .pointer cpv, .int .i64 nano, .pointer none, .int .i64 wt, .pointer none] 58 (0, 0))) (fun i _ => n - (intOf i).toNat)
  case atStart => exact ⟨0, Nat.zero_le _, rfl, fun j hj => absurd hj (Nat.not_lt_zero _), Joins.below_alloc1 _ _, (MapKept.heap_alloc w _).1⟩
  case round =>
    obtain ⟨k, hk1, rfl, HN, HB, hbox⟩ := hrel
    by_cases hlt' : k < n
    · have HTk : TkAt w g (k * 15) (NM k) (T k) (CB k) (MX k) none := tkAt_of fun q hq => by rw [HT.out.cellAt _ (by omega), tks_at NM T CB MX q hlt' hq]
      obtain ⟨c0, c1, c2, c3, c4, c5, c6, c7, c8, c9, c10, c11, c12, c13, c14⟩ := HTk.keep (HB.block g hgl)
      have hcbk := hcb k hlt'
      have hcbl := hlt hcbk
      have hct : wr.cell? ⟨CB k, 0, none⟩ = some (.string (CT k)) := Joins.cell_of_block ((HB.block _ hcbl).trans hcbk) 0
      have hli : (k : Int) < (n : Int) := by omega
      have hsz := HB.size
      have hcne : CB k ≠ wr.heap.size := by omega
      have hbx1 : wr.cell? ⟨w.heap.size, 1, none⟩ = some (.string cj) := Joins.cell_of_block hbox 1
      have hbx2 : wr.cell? ⟨w.heap.size, 2, none⟩ = some (.pointer cpv) := Joins.cell_of_block hbox 2
      have hwl : w.heap.size < wr.heap.size := by
        rcases Nat.lt_or_ge w.heap.size wr.heap.size with h' | h'
        · exact h'
        · rw [Array.getElem?_eq_none h'] at hbox; cases hbox
      have hwne : w.heap.size ≠ wr.heap.size := by omega
      cases heq : ((NM k).toList == cj.toList)
      · have hno := mt_step HN (fun h : Mt has NM CT cj ct k => by have := h.2.1; rw [this] at heq; simp at heq)
        have HNO := (show Hid (∀ j, j < k + 1 → ¬ Mt has NM CT cj ct j) from hno)
        clear hno HN
        go_wp2_with fail
        go_quiet (fail)
        go_wp2
        go_light
        exact ⟨⟨k + 1, by omega, by go_num, HNO.out, below_drewN (HB.alloc (by omega) _) _, (Below.heap_alloc _ _ _ hwl).trans hbox⟩, by simp [intOf]; omega⟩
      · cases has
        · have hcp : cpv = none := by have := HCP.out; simpa using this
          subst hcp
          have hno := mt_step HN (fun h : Mt false NM CT cj ct k => by have := h.1; cases this)
          have HNO := (show Hid (∀ j, j < k + 1 → ¬ Mt false NM CT cj ct j) from hno)
          clear hno HN
          go_wp2_with fail
          go_quiet (fail)
          go_wp2
          go_light
          exact ⟨⟨k + 1, by omega, by go_num, HNO.out, below_drewN (HB.alloc (by omega) _) _, (Below.heap_alloc _ _ _ hwl).trans hbox⟩, by simp [intOf]; omega⟩
        · have hcp : cpv = some ⟨cc, 0, none⟩ := by have := HCP.out; simpa using this
          subst hcp
          have hccb := HCC.out rfl
          have hccl := hlt hccb
          have hcct : wr.cell? ⟨cc, 0, none⟩ = some (.string ct) := Joins.cell_of_block ((HB.block _ hccl).trans hccb) 0
          have hccne : cc ≠ wr.heap.size := by omega
          cases heq2 : (ct.toList == (CT k).toList)
          · have hno := mt_step HN (fun h : Mt true NM CT cj ct k => by have := h.2.2; rw [this] at heq2; simp at heq2)
            have HNO := (show Hid (∀ j, j < k + 1 → ¬ Mt true NM CT cj ct j) from hno)
            clear hno HN
            go_wp2_with fail
            go_region_held3 (fun w' => w'.cell? ⟨wr.heap.size, 0, none⟩ = some (.string (NM k)) ∧ w'.cell? ⟨wr.heap.size, 2, none⟩ = some (.pointer (some ⟨CB k, 0, none⟩)) ∧ w'.cell? ⟨w.heap.size, 1, none⟩ = some (.string cj) ∧ w'.cell? ⟨w.heap.size, 2, none⟩ = some (.pointer (some ⟨cc, 0, none⟩)) ∧ w'.cell? ⟨cc, 0, none⟩ = some (.string ct) ∧ w'.cell? ⟨CB k, 0, none⟩ = some (.string (CT k))) (go_keep) (fail)
            go_wp2
            go_light
            exact ⟨⟨k + 1, by omega, by go_num, HNO.out, (HB.alloc (by omega) _).drew, (Below.heap_alloc _ _ _ hwl).trans hbox⟩, by simp [intOf]; omega⟩
          · have hmt : Mt true NM CT cj ct k := ⟨rfl, by simpa using heq, by simpa using heq2⟩
            have h10r : wr.cell? ⟨hb, 10, none⟩ = some (.slice (some ⟨g, 0, none⟩) n cap) := (HB.cell (p := ⟨hb, 10, none⟩) hbl).trans h10
            have hbne : hb ≠ wr.heap.size := by omega
            have hbl2 : hb < wr.heap.size := by omega
            go_wp2_with fail
            go_region_held3 (fun w' => w'.cell? ⟨wr.heap.size, 0, none⟩ = some (.string (NM k)) ∧ w'.cell? ⟨wr.heap.size, 2, none⟩ = some (.pointer (some ⟨CB k, 0, none⟩)) ∧ w'.cell? ⟨w.heap.size, 1, none⟩ = some (.string cj) ∧ w'.cell? ⟨w.heap.size, 2, none⟩ = some (.pointer (some ⟨cc, 0, none⟩)) ∧ w'.cell? ⟨cc, 0, none⟩ = some (.string ct) ∧ w'.cell? ⟨CB k, 0, none⟩ = some (.string (CT k))) (go_keep) (fail)
            go_wp2_with fail
            refine (del_at hlt' hH HT.out HU.out hgu HB hbox).mono ?_
            rintro e w1 ⟨rfl, HM⟩
            have HMI := (show Hid (Mid hb rb g n cap base m V uv NM T CB MX xs _ w wr k (.slice (some ⟨g, 0, none⟩) n cap) none w1) from HM)
            have e10 : w1.cell? ⟨hb, 10, none⟩ = some (.slice (some ⟨g, 0, none⟩) n cap) := Joins.cell_of_block HM.hH 10
            have f10 : w1.frozen? ⟨hb, 10, none⟩ = false := Joins.unfrozen_of_block HM.hH 10
            have e14 : w1.cell? ⟨wr.heap.size, 14, none⟩ = some (.pointer none) := Joins.cell_of_block HM.box 14
            have f14 : w1.frozen? ⟨wr.heap.size, 14, none⟩ = false := Joins.unfrozen_of_block HM.box 14
            clear HM
            go_wp2_with fail
            generalize hW3 : (w1.setCell ⟨hb, 10, none⟩ (.slice (some ⟨g, 0, none⟩) (n - 1) cap)).setCell ⟨wr.heap.size, 14, none⟩ (.pointer (some ⟨w.heap.size, 0, none⟩)) = W3
            have hgne : hb ≠ g := fun e => own_ne HT.out hH (by decide) (by rw [e]; rfl)
            have huh : uv.ownBlock ≠ some hb := own_ne HU.out hH (by decide)
            have hul : ∀ i, uv.ownBlock = some i → i < w.heap.size := fun i hi => (HU.out.lt i hi).2
            have HM3 : Mid hb rb g n cap base m V uv NM T CB MX xs (capA cT cj (some ⟨cc, 0, none⟩) nano wt) w wr k (.slice (some ⟨g, 0, none⟩) (n - 1) cap) (some ⟨w.heap.size, 0, none⟩) W3 := by
              rw [← hW3]; exact mid_stores HMI.out hbl hwl hgl hgne huh (fun e => by have := hul _ e; omega)
            have b : ∀ q, W3.cell? ⟨wr.heap.size, q, none⟩ = (boxA (NM k) (T k) (CB k) (MX k) (some ⟨w.heap.size, 0, none⟩))[q]? := fun q => Joins.cell_of_block HM3.box q
            have b0 := b 0
            have b1 := b 1
            have b2 := b 2
            have b3 := b 3
            have b4 := b 4
            have b5 := b 5
            have b6 := b 6
            have b7 := b 7
            have b8 := b 8
            have b9 := b 9
            have b10 := b 10
            have b11 := b 11
            have b12 := b 12
            have b13 := b 13
            have b14 := b 14
            simp [boxA] at b0 b1 b2 b3 b4 b5 b6 b7 b8 b9 b10 b11 b12 b13 b14
            have e11 : W3.cell? ⟨hb, 11, none⟩ = some uv := Joins.cell_of_block HM3.hH 11
            have f11 : W3.frozen? ⟨hb, 11, none⟩ = false := Joins.unfrozen_of_block HM3.hH 11
            have hs3 : hb < W3.heap.size := by have := HM3.size; omega
            have hs4 : wr.heap.size < W3.heap.size := HM3.size
            have HU3 := (show Hid (W3.ownsRow base 50 15 uv m xs) from HM3.own)
            have HMM := (show Hid (Mid hb rb g n cap base m V uv NM T CB MX xs (capA cT cj (some ⟨cc, 0, none⟩) nano wt) w wr k (.slice (some ⟨g, 0, none⟩) (n - 1) cap) (some ⟨w.heap.size, 0, none⟩) W3) from HM3)
            have hbs : base ≤ W3.heap.size + 1 := by omega
            obtain ⟨i0, hi0, hz0, hz1, hz2⟩ := info_parts info50
            have HN' := (show Hid (∀ j, j < k → ¬ Mt true NM CT cj ct j) from HN)
            clear HN b HM3 hW3 HMI
            go_region_law (refine step_append_lies _ rfl (.tmp 56) (.tmp 58) 31 rfl base 50 i0 _ 15 136 Yba.underlying31 hi0 hz0 hz1 hz2 rfl (by decide) uv m xs (by simp [Act.eval]) (HU3.out.drew.alloc _) ⟨W3.heap.size, 0, none⟩ 1 1 (tkL (NM k) (T k) (some ⟨CB k, 0, none⟩) (MX k) (some ⟨w.heap.size, 0, none⟩)) (by simp [Act.eval]) rfl (World.news_of_block (heap_alloc_last0 _ _ _ rfl)) (tkL_one _ _ _ _ _) (by decide) (by unfold maxLen; omega) (by omega) (by simp; omega) (W3.heap.size + 1) (by simp) ?_; intro g' cap' w4 hown hgrow hat hglt; obtain ⟨e4, f4⟩ := after_app e11 f11 hs3 huh hgrow)
            all_goals
              go_wp2
              go_ret
              exact .inr ⟨rfl, k, _, _, took_of HMM.out hbl hwl hgl hgne hgu huh hul hlt' hmt HN'.out hown hgrow hat⟩
    · have hkn : k = n := by omega
      subst hkn
      have HNO := (show Hid (∀ j, j < k → ¬ Mt has NM CT cj ct j) from HN)
      clear HN
      go_wp2
      go_ret
      exact .inl ⟨rfl, HNO.out, HB⟩

end Go.Proofs.Ybulkdvju
