import Derived.Test.YbulkdvjuTake
namespace Go.Proofs.Ybulkdvju
open Go.RowKit

/-- The entries that came in. -/
structure InE (ta : Option Addr) (n b off : Nat) (J C : Nat → Int) (T M : Nat → Nat) (w : World) : Prop where
  ad : 0 < n → ta = some ⟨b, off, none⟩ ∧ b < w.heap.size
  c0 : ∀ i, i < n → w.cell? ⟨b, off + i * 4, none⟩ = some (.int .u8 (J i))
  c1 : ∀ i, i < n → w.cell? ⟨b, off + i * 4 + 1, none⟩ = some (.int .u8 (C i))
  c2 : ∀ i, i < n → w.cell? ⟨b, off + i * 4 + 2, none⟩ = some (.float .f64 (T i))
  c3 : ∀ i, i < n → w.cell? ⟨b, off + i * 4 + 3, none⟩ = some (.float .f64 (M i))
  rj : ∀ i, i < n → 0 ≤ J i ∧ J i ≤ 255
  rc : ∀ i, i < n → 0 ≤ C i ∧ C i ≤ 255
theorem InE.keep {ta : Option Addr} {n b off : Nat} {J C : Nat → Int} {T M : Nat → Nat} {w w' : World} (h : InE ta n b off J C T M w) (hb : Below w.heap.size w w') : InE ta n b off J C T M w' := by
  obtain ⟨h0, h1, h2, h3, h4, h5, h6⟩ := h
  have e : ∀ i, i < n → ∀ o, w'.cell? ⟨b, o, none⟩ = w.cell? ⟨b, o, none⟩ := fun i hi o => hb.cell (p := ⟨b, o, none⟩) (h0 (by omega)).2
  exact ⟨fun hp => ⟨(h0 hp).1, Nat.lt_of_lt_of_le (h0 hp).2 hb.size⟩, fun i hi => (e i hi _).trans (h1 i hi), fun i hi => (e i hi _).trans (h2 i hi), fun i hi => (e i hi _).trans (h3 i hi), fun i hi => (e i hi _).trans (h4 i hi), h5, h6⟩

theorem tks_congr {NM : Nat → ByteArray} {T CB CB' MX : Nat → Nat} {k : Nat} (h : ∀ i, i < k → CB' i = CB i) : tks NM T CB' MX k = tks NM T CB MX k := by
  induction k with
  | zero => rfl
  | succ k ih => rw [tks, tks, ih (fun i hi => h i (by omega)), h k (by omega)]

theorem tk_of_own {w : World} {base g n cap : Nat} {NM : Nat → ByteArray} {T CB MX : Nat → Nat} (h : w.ownsRow base 50 15 (.slice (some ⟨g, 0, none⟩) n cap) n (tks NM T CB MX n)) {i : Nat} (hi : i < n) : TkAt w g (i * 15) (NM i) (T i) (CB i) (MX i) none :=
  tkAt_of fun q hq => by rw [h.cellAt _ (by omega), tks_at NM T CB MX q hi hq]
theorem tk_of_own1 {w : World} {base g n cap : Nat} {NM : Nat → ByteArray} {T CB MX : Nat → Nat} {xs : List Value} (h : w.ownsRow base 50 15 (.slice (some ⟨g, 0, none⟩) (n + 1) cap) (n + 1) (tks NM T CB MX n ++ xs)) {i : Nat} (hi : i < n) : TkAt w g (i * 15) (NM i) (T i) (CB i) (MX i) none :=
  tkAt_of fun q hq => by rw [h.cellAt _ (by omega), List.getElem?_append_left (by rw [tks_length]; omega), tks_at NM T CB MX q hi hq]
theorem tk_of_last {w : World} {base g n cap : Nat} {NM : Nat → ByteArray} {T CB MX : Nat → Nat} {nm : ByteArray} {t cb m : Nat} {lf : Option Addr} (h : w.ownsRow base 50 15 (.slice (some ⟨g, 0, none⟩) (n + 1) cap) (n + 1) (tks NM T CB MX n ++ tkL nm t (some ⟨cb, 0, none⟩) m lf)) : TkAt w g (n * 15) nm t cb m lf :=
  tkAt_of fun q hq => by rw [h.cellAt _ (by omega), List.getElem?_append_right (by rw [tks_length]; omega), tks_length]; congr 1; omega
theorem own_form {w : World} {base n : Nat} {v : Value} {xs : List Value} (h : w.ownsRow base 50 15 v n xs) : ∃ a cap, v = .slice a n cap ∧ (0 < n → ∃ g, a = some ⟨g, 0, none⟩) := by
  rcases h.2 with ⟨rfl, rfl⟩ | ⟨g, cap, _, rfl, _⟩
  · exact ⟨none, 0, rfl, fun h => by omega⟩
  · exact ⟨_, cap, rfl, fun _ => ⟨g, rfl⟩⟩

/-- The replayer, with two rows of take-ups. -/
structure St (hb rb B : Nat) (V : Nat → Value) (NM1 CT1 : Nat → ByteArray) (T1 MX1 : Nat → Nat) (NM2 CT2 : Nat → ByteArray) (T2 MX2 : Nat → Nat) (w : World) (tv : Value) (k1 : Nat) (CB1 : Nat → Nat) (uv : Value) (k2 : Nat) (CB2 : Nat → Nat) (wr : World) : Prop where
  bel : Below B w wr
  hb0 : B ≤ hb
  hH : wr.heap[hb]? = some (hObj rb V tv uv)
  hR : wr.heap[rb]? = some (.cells #[.int .i64 0, .int .i64 0, .slice none 0 0, .slice none 0 0, V 0] 30 (0, 0))
  own1 : wr.ownsRow B 50 15 tv k1 (tks NM1 T1 CB1 MX1 k1)
  own2 : wr.ownsRow B 50 15 uv k2 (tks NM2 T2 CB2 MX2 k2)
  apart : ∀ g, uv.ownBlock = some g → tv.ownBlock ≠ some g
  cb1 : ∀ i, i < k1 → wr.heap[CB1 i]? = some (.cells #[.string (CT1 i)] 9 (0, 0))
  cb2 : ∀ i, i < k2 → wr.heap[CB2 i]? = some (.cells #[.string (CT2 i)] 9 (0, 0))

section
variable {hb rb B : Nat} {V : Nat → Value} {NM1 CT1 : Nat → ByteArray} {T1 MX1 : Nat → Nat} {NM2 CT2 : Nat → ByteArray} {T2 MX2 : Nat → Nat} {w : World} {tv : Value} {k1 : Nat} {CB1 : Nat → Nat} {uv : Value} {k2 : Nat} {CB2 : Nat → Nat} {wr : World}

theorem St.keep (h : St hb rb B V NM1 CT1 T1 MX1 NM2 CT2 T2 MX2 w tv k1 CB1 uv k2 CB2 wr) {w' : World} (hbel : Below wr.heap.size wr w') (hB : B ≤ wr.heap.size) : St hb rb B V NM1 CT1 T1 MX1 NM2 CT2 T2 MX2 w tv k1 CB1 uv k2 CB2 w' := by
  have e : ∀ {i : Nat} {o : Obj}, wr.heap[i]? = some o → w'.heap[i]? = some o := fun {i o} hi => (hbel.block i (heap_lt hi)).trans hi
  have hk : wr.grownBy w' none := ⟨hbel.os, hbel.tape, hbel.output, hbel.size, fun i hi _ => hbel.block i hi⟩
  exact ⟨h.bel.trans (hbel.mono hB), h.hb0, e h.hH, e h.hR, h.own1.kept hk (Classical.em _), h.own2.kept hk (Classical.em _), h.apart, fun i hi => e (h.cb1 i hi), fun i hi => e (h.cb2 i hi)⟩

theorem st_push1 (h : St hb rb B V NM1 CT1 T1 MX1 NM2 CT2 T2 MX2 w tv k1 CB1 uv k2 CB2 wr) (hB : B ≤ wr.heap.size) {w2 w4 : World} {o : Obj} {cb g' cap' : Nat} (hbel : Below wr.heap.size wr w2) (hcb : w2.heap[cb]? = some (.cells #[.string (CT1 k1)] 9 (0, 0)))
    (hown : w4.ownsRow B 50 15 (.slice (some ⟨g', 0, none⟩) (k1 + 1) cap') (k1 + 1) (tks NM1 T1 CB1 MX1 k1 ++ tkL (NM1 k1) (T1 k1) (some ⟨cb, 0, none⟩) (MX1 k1) none)) (hgr : (w2.alloc o).grownBy w4 tv.ownBlock) (hat : tv.ownBlock = some g' ∨ g' = w2.heap.size + 1) :
    ∃ CB', St hb rb B V NM1 CT1 T1 MX1 NM2 CT2 T2 MX2 w (.slice (some ⟨g', 0, none⟩) (k1 + 1) cap') (k1 + 1) CB' uv k2 CB2 (w4.setCell ⟨hb, 10, none⟩ (.slice (some ⟨g', 0, none⟩) (k1 + 1) cap')) := by
  have h2 := h.keep hbel hB
  have hbl := heap_lt h2.hH
  have huh : uv.ownBlock ≠ some hb := own_ne h2.own2 h2.hH (by decide)
  have hth : tv.ownBlock ≠ some hb := own_ne h2.own1 h2.hH (by decide)
  have htr : tv.ownBlock ≠ some rb := own_ne h2.own1 h2.hR (by decide)
  have hhr : rb ≠ hb := fun e => by have := h2.hR; rw [e, h2.hH] at this; simp [hObj] at this
  have hg' : hb ≠ g' := by
    rintro rfl
    rcases hat with h' | h'
    · exact hth h'
    · omega
  have hug : ∀ i, uv.ownBlock = some i → i < w2.heap.size := fun i hi => (h2.own2.lt i hi).2
  have blk : ∀ i, i < w2.heap.size → some i ≠ tv.ownBlock → w4.heap[i]? = w2.heap[i]? := fun i hi hne => (hgr.block i (by simp; omega) hne).trans (Below.heap_alloc _ _ _ hi)
  have blk2 : ∀ {i : Nat} {ob : Obj}, w2.heap[i]? = some ob → i ≠ hb → some i ≠ tv.ownBlock → (w4.setCell ⟨hb, 10, none⟩ (.slice (some ⟨g', 0, none⟩) (k1 + 1) cap')).heap[i]? = some ob := fun {i ob} hi h1 h3 => ((Below.heap_setCell _ _ _ _ h1).trans (blk i (heap_lt hi) h3)).trans hi
  have ne9 : ∀ {i : Nat} {s : Value}, w2.heap[i]? = some (.cells #[s] 9 (0, 0)) → i ≠ hb ∧ some i ≠ tv.ownBlock := fun {i s} hi => ⟨fun e => by rw [e, h2.hH] at hi; simp [hObj] at hi, fun e => own_ne h2.own1 hi (by decide) e.symm⟩
  have hs4 : w2.heap.size + 1 ≤ w4.heap.size := by have := hgr.size; simpa using this
  have hgrow2 : w2.grownBy w4 tv.ownBlock := ⟨hgr.os, hgr.tape, hgr.output, by omega, blk⟩
  refine ⟨fun i => if i = k1 then cb else CB1 i, ?_, h.hb0, ?_, ?_, ?_, ?_, ?_, ?_, ?_⟩
  · refine ⟨hgr.os.trans h2.bel.os, hgr.tape.trans h2.bel.tape, hgr.output.trans h2.bel.output, by have := h2.bel.size; simp [World.setCell]; omega, fun i hi => ?_⟩
    have hb0 := h.hb0
    have hs := hbel.size
    rw [Below.heap_setCell _ _ _ _ (show i ≠ hb by omega), blk i (by omega) (fun e => by have := (h2.own1.lt i e.symm).1; omega)]
    exact h2.bel.block i hi
  · exact (Joins.block_setCell ((blk hb hbl (fun e => hth e.symm)).trans h2.hH) _).trans (by rfl)
  · exact blk2 h2.hR hhr (fun e => htr e.symm)
  · refine ownsRow_setCell_other ?_ (by simpa [Value.ownBlock] using fun e => hg' e.symm) _
    rw [tks, tks_congr (CB := CB1) (fun i hi => if_neg (by omega)), if_pos rfl]
    exact hown
  · refine ownsRow_setCell_other (h2.own2.kept hgrow2 ?_) huh _
    by_cases e : uv.ownBlock = none
    · exact .inl e
    · right
      intro e2
      obtain ⟨x, hx⟩ := Option.ne_none_iff_exists'.1 e
      exact h.apart x hx (e2 ▸ hx)
  · intro x hx
    simp only [Value.ownBlock, ne_eq, Option.some.injEq]
    rintro rfl
    rcases hat with h' | h'
    · exact h.apart _ hx h'
    · have := hug _ hx; omega
  · intro i hi
    by_cases e : i = k1
    · subst e
      simp only [if_true]
      exact blk2 hcb (ne9 hcb).1 (ne9 hcb).2
    · simp only [if_neg e]
      have := h2.cb1 i (by omega)
      exact blk2 this (ne9 this).1 (ne9 this).2
  · intro i hi
    have := h2.cb2 i hi
    exact blk2 this (ne9 this).1 (ne9 this).2

theorem st_push2 (h : St hb rb B V NM1 CT1 T1 MX1 NM2 CT2 T2 MX2 w tv k1 CB1 uv k2 CB2 wr) (hB : B ≤ wr.heap.size) {w2 w4 : World} {o : Obj} {cb g' cap' : Nat} (hbel : Below wr.heap.size wr w2) (hcb : w2.heap[cb]? = some (.cells #[.string (CT2 k2)] 9 (0, 0)))
    (hown : w4.ownsRow B 50 15 (.slice (some ⟨g', 0, none⟩) (k2 + 1) cap') (k2 + 1) (tks NM2 T2 CB2 MX2 k2 ++ tkL (NM2 k2) (T2 k2) (some ⟨cb, 0, none⟩) (MX2 k2) none)) (hgr : (w2.alloc o).grownBy w4 uv.ownBlock) (hat : uv.ownBlock = some g' ∨ g' = w2.heap.size + 1) :
    ∃ CB', St hb rb B V NM1 CT1 T1 MX1 NM2 CT2 T2 MX2 w tv k1 CB1 (.slice (some ⟨g', 0, none⟩) (k2 + 1) cap') (k2 + 1) CB' (w4.setCell ⟨hb, 11, none⟩ (.slice (some ⟨g', 0, none⟩) (k2 + 1) cap')) := by
  have h2 := h.keep hbel hB
  have hbl := heap_lt h2.hH
  have huh : uv.ownBlock ≠ some hb := own_ne h2.own2 h2.hH (by decide)
  have hth : tv.ownBlock ≠ some hb := own_ne h2.own1 h2.hH (by decide)
  have hur : uv.ownBlock ≠ some rb := own_ne h2.own2 h2.hR (by decide)
  have hhr : rb ≠ hb := fun e => by have := h2.hR; rw [e, h2.hH] at this; simp [hObj] at this
  have hg' : hb ≠ g' := by
    rintro rfl
    rcases hat with h' | h'
    · exact huh h'
    · omega
  have htg : ∀ i, tv.ownBlock = some i → i < w2.heap.size := fun i hi => (h2.own1.lt i hi).2
  have blk : ∀ i, i < w2.heap.size → some i ≠ uv.ownBlock → w4.heap[i]? = w2.heap[i]? := fun i hi hne => (hgr.block i (by simp; omega) hne).trans (Below.heap_alloc _ _ _ hi)
  have blk2 : ∀ {i : Nat} {ob : Obj}, w2.heap[i]? = some ob → i ≠ hb → some i ≠ uv.ownBlock → (w4.setCell ⟨hb, 11, none⟩ (.slice (some ⟨g', 0, none⟩) (k2 + 1) cap')).heap[i]? = some ob := fun {i ob} hi h1 h3 => ((Below.heap_setCell _ _ _ _ h1).trans (blk i (heap_lt hi) h3)).trans hi
  have ne9 : ∀ {i : Nat} {s : Value}, w2.heap[i]? = some (.cells #[s] 9 (0, 0)) → i ≠ hb ∧ some i ≠ uv.ownBlock := fun {i s} hi => ⟨fun e => by rw [e, h2.hH] at hi; simp [hObj] at hi, fun e => own_ne h2.own2 hi (by decide) e.symm⟩
  have hs4 : w2.heap.size + 1 ≤ w4.heap.size := by have := hgr.size; simpa using this
  have hgrow2 : w2.grownBy w4 uv.ownBlock := ⟨hgr.os, hgr.tape, hgr.output, by omega, blk⟩
  refine ⟨fun i => if i = k2 then cb else CB2 i, ?_, h.hb0, ?_, ?_, ?_, ?_, ?_, ?_, ?_⟩
  · refine ⟨hgr.os.trans h2.bel.os, hgr.tape.trans h2.bel.tape, hgr.output.trans h2.bel.output, by have := h2.bel.size; simp [World.setCell]; omega, fun i hi => ?_⟩
    have hb0 := h.hb0
    have hs := hbel.size
    rw [Below.heap_setCell _ _ _ _ (show i ≠ hb by omega), blk i (by omega) (fun e => by have := (h2.own2.lt i e.symm).1; omega)]
    exact h2.bel.block i hi
  · exact (Joins.block_setCell ((blk hb hbl (fun e => huh e.symm)).trans h2.hH) _).trans (by rfl)
  · exact blk2 h2.hR hhr (fun e => hur e.symm)
  · refine ownsRow_setCell_other (h2.own1.kept hgrow2 ?_) hth _
    by_cases e : tv.ownBlock = none
    · exact .inl e
    · right
      intro e2
      obtain ⟨x, hx⟩ := Option.ne_none_iff_exists'.1 e
      exact h.apart x (e2 ▸ hx) hx
  · refine ownsRow_setCell_other ?_ (by simpa [Value.ownBlock] using fun e => hg' e.symm) _
    rw [tks, tks_congr (CB := CB2) (fun i hi => if_neg (by omega)), if_pos rfl]
    exact hown
  · intro x hx
    simp only [Value.ownBlock, Option.some.injEq] at hx
    subst hx
    intro e
    rcases hat with h' | h'
    · exact h.apart _ h' e
    · have := htg _ e; omega
  · intro i hi
    have := h2.cb1 i hi
    exact blk2 this (ne9 this).1 (ne9 this).2
  · intro i hi
    by_cases e : i = k2
    · subst e
      simp only [if_true]
      exact blk2 hcb (ne9 hcb).1 (ne9 hcb).2
    · simp only [if_neg e]
      have := h2.cb2 i (by omega)
      exact blk2 this (ne9 this).1 (ne9 this).2
end

theorem nmA_eq (a b : Int) : (nmA a).toList = (nmA b).toList ↔ a % 3 = b % 3 := by
  have h1 : a % 3 = 0 ∨ a % 3 = 1 ∨ a % 3 = 2 := by omega
  have h2 : b % 3 = 0 ∨ b % 3 = 1 ∨ b % 3 = 2 := by omega
  unfold nmA
  rcases h1 with h1 | h1 | h1 <;> rcases h2 with h2 | h2 | h2 <;> rw [h1, h2] <;> simp [ByteArray.toList_eq]
theorem ctA_eq (a b : Int) : (ctA a).toList = (ctA b).toList ↔ a % 3 = b % 3 := by
  have h1 : a % 3 = 0 ∨ a % 3 = 1 ∨ a % 3 = 2 := by omega
  have h2 : b % 3 = 0 ∨ b % 3 = 1 ∨ b % 3 = 2 := by omega
  unfold ctA
  rcases h1 with h1 | h1 | h1 <;> rcases h2 with h2 | h2 | h2 <;> rw [h1, h2] <;> simp [ByteArray.toList_eq]

end Go.Proofs.Ybulkdvju
