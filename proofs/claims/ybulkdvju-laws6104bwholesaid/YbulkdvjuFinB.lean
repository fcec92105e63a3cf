import Derived.Test.YbulkdvjuTakeB
namespace Go.Proofs.Ybulkdvju
open Go.RowKit

/-- The j-th entry is the one looked for. -/
def Mq (J C : Nat → Int) (cJ cC : Int) (j : Nat) : Prop := J j % 3 = cJ % 3 ∧ C j % 3 = cC % 3
theorem mt_iff (J C : Nat → Int) (cJ cC : Int) (j : Nat) : Mt true (fun i => nmA (J i)) (fun i => ctA (C i)) (nmA cJ) (ctA cC) j ↔ Mq J C cJ cC j := by
  unfold Mt Mq
  constructor
  · rintro ⟨_, h1, h2⟩; exact ⟨(nmA_eq _ _).1 h1, ((ctA_eq _ _).1 h2).symm⟩
  · rintro ⟨h1, h2⟩; exact ⟨rfl, (nmA_eq _ _).2 h1, (ctA_eq _ _).2 h2.symm⟩
theorem mq_step {J C : Nat → Int} {cJ cC : Int} {k : Nat} (h : ∀ j, j < k → ¬ Mq J C cJ cC j) (hk : ¬ Mq J C cJ cC k) : ∀ j, j < k + 1 → ¬ Mq J C cJ cC j := fun j hj => by
  by_cases e : j = k
  · subst e; exact hk
  · exact h j (by omega)

/-- Behind a take-up that was taken. -/
structure FinB (hb rb B g t1 cp1 g2 cp2 pn lb cc k : Nat) (V : Nat → Value) (NM1 CT1 : Nat → ByteArray) (T1 MX1 CB1 : Nat → Nat) (NM2 CT2 : Nat → ByteArray) (T2 MX2 CB2 : Nat → Nat) (cT : Nat) (cj ct : ByteArray) (nano wt : Int) (w : World) (w5 : World) : Prop where
  bel : Below B w w5
  hH : w5.heap[hb]? = some (hObj rb V (.slice (some ⟨g, 0, none⟩) t1 cp1) (.slice (some ⟨g2, 0, none⟩) (pn + 1) cp2))
  hR : w5.heap[rb]? = some (.cells #[.int .i64 0, .int .i64 0, .slice none 0 0, .slice none 0 0, V 0] 30 (0, 0))
  lo : ∀ j, j < k → TkAt w5 g (j * 15) (NM1 j) (T1 j) (CB1 j) (MX1 j) none
  hi : ∀ j, k ≤ j → j < t1 → TkAt w5 g (j * 15) (NM1 (j + 1)) (T1 (j + 1)) (CB1 (j + 1)) (MX1 (j + 1)) none
  un : ∀ j, j < pn → TkAt w5 g2 (j * 15) (NM2 j) (T2 j) (CB2 j) (MX2 j) none
  last : TkAt w5 g2 (pn * 15) (NM1 k) (T1 k) (CB1 k) (MX1 k) (some ⟨lb, 0, none⟩)
  gl : g < w5.heap.size
  gl2 : g2 < w5.heap.size
  lift : w5.heap[lb]? = some (.cells (capA cT cj (some ⟨cc, 0, none⟩) nano wt) 58 (0, 0))
  str : w5.heap[cc]? = some (.cells #[.string ct] 9 (0, 0))
  cb1 : ∀ i, i < t1 + 1 → w5.heap[CB1 i]? = some (.cells #[.string (CT1 i)] 9 (0, 0))
  cb2 : ∀ i, i < pn → w5.heap[CB2 i]? = some (.cells #[.string (CT2 i)] 9 (0, 0))

section
variable {hb rb B g t1 cp1 g2 cp2 pn lb cc k : Nat} {V : Nat → Value} {NM1 CT1 : Nat → ByteArray} {T1 MX1 CB1 : Nat → Nat} {NM2 CT2 : Nat → ByteArray} {T2 MX2 CB2 : Nat → Nat} {cT : Nat} {cj ct : ByteArray} {nano wt : Int} {w w5 : World}
theorem FinB.keep (h : FinB hb rb B g t1 cp1 g2 cp2 pn lb cc k V NM1 CT1 T1 MX1 CB1 NM2 CT2 T2 MX2 CB2 cT cj ct nano wt w w5) {w' : World} (hbel : Below w5.heap.size w5 w') (hB : B ≤ w5.heap.size) : FinB hb rb B g t1 cp1 g2 cp2 pn lb cc k V NM1 CT1 T1 MX1 CB1 NM2 CT2 T2 MX2 CB2 cT cj ct nano wt w w' := by
  have e : ∀ {i : Nat} {o : Obj}, w5.heap[i]? = some o → w'.heap[i]? = some o := fun {i o} hi => (hbel.block i (heap_lt hi)).trans hi
  exact ⟨h.bel.trans (hbel.mono hB), e h.hH, e h.hR, fun j hj => (h.lo j hj).keep (hbel.block _ h.gl), fun j h1 h2 => (h.hi j h1 h2).keep (hbel.block _ h.gl), fun j hj => (h.un j hj).keep (hbel.block _ h.gl2), h.last.keep (hbel.block _ h.gl2), Nat.lt_of_lt_of_le h.gl hbel.size, Nat.lt_of_lt_of_le h.gl2 hbel.size, e h.lift, e h.str, fun i hi => e (h.cb1 i hi), fun i hi => e (h.cb2 i hi)⟩

theorem hKat (h : FinB hb rb B g t1 cp1 g2 cp2 pn lb cc k V NM1 CT1 T1 MX1 CB1 NM2 CT2 T2 MX2 CB2 cT cj ct nano wt w w5) {q jq : Nat} (hj : q ≤ k ∧ jq = q ∨ k < q ∧ jq + 1 = q) (hqk : q ≠ k) (hq : q < t1 + 1) : TkAt w5 g (jq * 15) (NM1 q) (T1 q) (CB1 q) (MX1 q) none := by
  rcases hj with ⟨h1, rfl⟩ | ⟨h1, rfl⟩
  · exact h.lo _ (by omega)
  · exact h.hi jq (by omega) (by omega)

theorem fin_of_took {uv uv' : Value} {W6 : World} (hS : St hb rb B V NM1 CT1 T1 MX1 NM2 CT2 T2 MX2 w (.slice (some ⟨g, 0, none⟩) (t1 + 1) cp1) (t1 + 1) CB1 uv pn CB2 W6) (hB : B ≤ W6.heap.size) (hcc : W6.heap[cc]? = some (.cells #[.string ct] 9 (0, 0)))
    (h : Took true hb rb g (t1 + 1) cp1 B pn lb V uv NM1 CT1 T1 CB1 MX1 (tks NM2 T2 CB2 MX2 pn) cT cj ct (some ⟨cc, 0, none⟩) nano wt W6 k uv' w5) :
    ∃ g2 cp2, FinB hb rb B g t1 cp1 g2 cp2 pn lb cc k V NM1 CT1 T1 MX1 CB1 NM2 CT2 T2 MX2 CB2 cT cj ct nano wt w w5 := by
  obtain ⟨g2, cp2, rfl, hg2, hg2l⟩ := h.own.form (by omega)
  have hgl := hS.own1.lt g rfl
  have e : ∀ {i : Nat} {a : Array Value} {t : TypeId}, W6.heap[i]? = some (.cells a t (0, 0)) → t ≠ 50 → i ≠ hb → w5.heap[i]? = some (.cells a t (0, 0)) := fun {i a t} hi ht hn =>
    (h.block i (heap_lt hi) hn (fun e => own_ne hS.own1 hi ht (by rw [e]; rfl)) (fun e => own_ne hS.own2 hi ht e.symm)).trans hi
  have n9 : ∀ {i : Nat} {a : Array Value}, W6.heap[i]? = some (.cells a 9 (0, 0)) → i ≠ hb := fun {i a} hi e => by rw [e, hS.hH] at hi; simp [hObj] at hi
  have nR : rb ≠ hb := fun e => by have := hS.hR; rw [e, hS.hH] at this; simp [hObj] at this
  have hs := h.size
  have hB' := hB
  refine ⟨g2, cp2, ?_, ?_, e hS.hR (by decide) nR, h.lo, fun j h1 h2 => h.hi j h1 (by omega), fun j hj => tk_of_own1 h.own hj, tk_of_last h.own, by omega, hg2l, h.lift, e hcc (by decide) (n9 hcc), fun i hi => e (hS.cb1 i hi) (by decide) (n9 (hS.cb1 i hi)), fun i hi => e (hS.cb2 i hi) (by decide) (n9 (hS.cb2 i hi))⟩
  · refine ⟨h.os.trans hS.bel.os, h.tape.trans hS.bel.tape, h.output.trans hS.bel.output, Nat.le_trans hS.bel.size hs, fun i hi => ?_⟩
    have hb0 := hS.hb0
    rw [h.block i (by omega) (by omega) (by omega) (fun e => by have := (hS.own2.lt i e.symm).1; omega)]
    exact hS.bel.block i hi
  · have := h.hH
    simpa using this
end

end Go.Proofs.Ybulkdvju
