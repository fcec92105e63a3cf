import Derived.Test.YbulkdvjuLawC
namespace Go.Proofs.Ybulkdvju
open Go.RowKit

/-! ### Floats: a whole number as a float equals itself -/
def stF (k : Nat) : Nat := floatOfInt .f64 (k : Int)
theorem order_self (n : Nat) : Ieee.double.order (FloatKind.f64.nearest (n : Int)) (FloatKind.f64.nearest (n : Int)) = some .eq := by
  have hn : (decide ((n : Int) < 0)) = false := by simp
  have hx : ∃ r, FloatKind.f64.nearest (n : Int) = r ∧ r ≤ Ieee.double.infRung := by
    refine ⟨_, rfl, ?_⟩
    unfold FloatKind.nearest FloatKind.encode FloatKind.format Ieee.Format.write
    rw [hn]
    unfold Ieee.Format.nearest Ieee.Format.word
    simp only [Bool.false_eq_true, if_false]
    split
    · exact Nat.zero_le _
    · exact Nat.min_le_right _ _
  obtain ⟨r, hr, hle⟩ := hx
  rw [hr]
  have hsw : r < Ieee.double.signWeight := Nat.lt_of_le_of_lt hle (by decide)
  have hd : r / Ieee.double.signWeight = 0 := Nat.div_eq_of_lt hsw
  have hm : r % Ieee.double.signWeight = r := Nat.mod_eq_of_lt hsw
  unfold Ieee.Format.order Ieee.Format.read
  simp only [hd, hm]
  split
  · simp [Ieee.Datum.order]
  · split
    · simp [Ieee.Datum.order]
    · split
      · simp [Ieee.Datum.order]
      · omega
theorem floatEq_self (n : Nat) : Op.floatEq .f64 (stF n) (stF n) = true := by
  unfold Op.floatEq stF floatOfInt
  show (Ieee.double.order _ _ == some .eq) = true
  rw [order_self]
  rfl

/-! ### The records of one host's jobs, one behind the other -/
def rjL (nm : ByteArray) (st : Nat) (wt : Int) : List Value := [.string nm, .float .f64 st, .string ⟨#[]⟩, .float .f64 0, .float .f64 0, .float .f64 0, .float .f64 0, .float .f64 0, .int .i64 0, .float .f64 0, .int .i64 wt, .pointer none]
def recs (NM : Nat → ByteArray) (ST : Nat → Nat) (wt : Int) : Nat → List Value
  | 0 => []
  | k + 1 => recs NM ST wt k ++ rjL (NM k) (ST k) wt
theorem recs_length (NM : Nat → ByteArray) (ST : Nat → Nat) (wt : Int) (k : Nat) : (recs NM ST wt k).length = k * 12 := by
  induction k with
  | zero => rfl
  | succ k ih => simp [recs, ih, rjL]; omega
theorem recs_at (NM : Nat → ByteArray) (ST : Nat → Nat) (wt : Int) {n k : Nat} (o : Nat) (hk : k < n) (ho : o < 12) : (recs NM ST wt n)[k * 12 + o]? = (rjL (NM k) (ST k) wt)[o]? := by
  induction n with
  | zero => omega
  | succ n ih =>
    simp only [recs]
    by_cases e : k = n
    · subst e
      rw [List.getElem?_append_right (by rw [recs_length]; omega), recs_length]
      congr 1; omega
    · rw [List.getElem?_append_left (by rw [recs_length]; omega)]
      exact ih (by omega)
theorem jobs_of_own {w : World} {base jb n cap : Nat} {NM : Nat → ByteArray} {ST : Nat → Nat} {wt : Int} (h : w.ownsRow base 81 12 (.slice (some ⟨jb, 0, none⟩) n cap) n (recs NM ST wt n)) : JobsAt jb n NM ST wt w := by
  have e : ∀ k, k < n → ∀ o, o < 12 → w.cell? ⟨jb, k * 12 + o, none⟩ = (rjL (NM k) (ST k) wt)[o]? := fun k hk o ho => by
    rw [h.cellAt (k * 12 + o) (by omega), recs_at NM ST wt o hk ho]
  exact ⟨fun k hk => e k hk 0 (by omega), fun k hk => e k hk 1 (by omega), fun k hk => e k hk 2 (by omega), fun k hk => e k hk 3 (by omega), fun k hk => e k hk 4 (by omega), fun k hk => e k hk 5 (by omega), fun k hk => e k hk 6 (by omega), fun k hk => e k hk 7 (by omega), fun k hk => e k hk 8 (by omega), fun k hk => e k hk 9 (by omega), fun k hk => e k hk 10 (by omega), fun k hk => e k hk 11 (by omega)⟩

/-! ### What the first job that was met is -/
def Bef (i' k' i k : Nat) : Prop := i' < i ∨ (i' = i ∧ k' < k)
def WantTo (HR : Nat → Bool) (JL : Nat → Nat) (NM : Nat → Nat → ByteArray) (name : ByteArray) (i k : Nat) (h j : Int) : Prop :=
  (h = -1 ∧ j = -1 ∧ ∀ i' k', Bef i' k' i k → ¬ Hit HR JL NM name i' k') ∨
  (∃ hn jn : Nat, h = hn ∧ j = jn ∧ Bef hn jn i k ∧ Hit HR JL NM name hn jn ∧ ∀ i' k', Bef i' k' hn jn → ¬ Hit HR JL NM name i' k')
section
variable {HR : Nat → Bool} {JL : Nat → Nat} {NM : Nat → Nat → ByteArray} {name : ByteArray} {i k : Nat} {h j : Int}
theorem want_start : WantTo HR JL NM name 0 0 (-1) (-1) := .inl ⟨rfl, rfl, fun i' k' hb => by rcases hb with h | ⟨_, h⟩ <;> omega⟩
theorem want_skip (hr : HR i = false) (w : WantTo HR JL NM name i 0 h j) : WantTo HR JL NM name (i + 1) 0 h j := by
  rcases w with ⟨a, b, c⟩ | ⟨hn, jn, a, b, c, d, e⟩
  · refine .inl ⟨a, b, fun i' k' hb hh => ?_⟩
    by_cases e : i' = i
    · subst e; have h1 := hh.1; rw [hr] at h1; cases h1
    · exact c i' k' (.inl (by rcases hb with h | ⟨h, h2⟩ <;> omega)) hh
  · exact .inr ⟨hn, jn, a, b, .inl (by rcases c with h | ⟨h, h2⟩ <;> omega), d, e⟩
theorem want_next (hk : k = JL i) (w : WantTo HR JL NM name i k h j) : WantTo HR JL NM name (i + 1) 0 h j := by
  rcases w with ⟨a, b, c⟩ | ⟨hn, jn, a, b, c, d, e⟩
  · refine .inl ⟨a, b, fun i' k' hb hh => ?_⟩
    by_cases e : i' = i
    · subst e; exact c i' k' (.inr ⟨rfl, by rw [hk]; exact hh.2.1⟩) hh
    · exact c i' k' (.inl (by rcases hb with h | ⟨h, h2⟩ <;> omega)) hh
  · exact .inr ⟨hn, jn, a, b, .inl (by rcases c with h | ⟨h, h2⟩ <;> omega), d, e⟩
theorem want_hit (hr : HR i = true) (hk : k < JL i) (hn : (NM i k).toList = name.toList) (h0 : h < 0) (w : WantTo HR JL NM name i k h j) : WantTo HR JL NM name i (k + 1) i k := by
  rcases w with ⟨a, b, c⟩ | ⟨hn', jn, a, b, c, d, e⟩
  · exact .inr ⟨i, k, rfl, rfl, .inr ⟨rfl, by omega⟩, ⟨hr, hk, hn⟩, c⟩
  · omega
theorem want_miss (hm : ¬ h < 0 ∨ (NM i k).toList ≠ name.toList) (w : WantTo HR JL NM name i k h j) : WantTo HR JL NM name i (k + 1) h j := by
  rcases w with ⟨a, b, c⟩ | ⟨hn, jn, a, b, c, d, e⟩
  · refine .inl ⟨a, b, fun i' k' hb hh => ?_⟩
    by_cases e : i' = i ∧ k' = k
    · obtain ⟨rfl, rfl⟩ := e
      rcases hm with hm | hm
      · omega
      · exact hm hh.2.2
    · exact c i' k' (by rcases hb with h | ⟨h, h2⟩
                        · exact .inl h
                        · exact .inr ⟨h, by omega⟩) hh
  · exact .inr ⟨hn, jn, a, b, (by rcases c with h | ⟨h, h2⟩
                                  · exact .inl h
                                  · exact .inr ⟨h, by omega⟩), d, e⟩
end

end Go.Proofs.Ybulkdvju
