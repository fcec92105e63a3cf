import Derived.Test.YbulkdvieSum
namespace Go.Proofs.Ybulkdvie
open Go.RowKit Go.Maps

/-- All that lay there lies there as it did, but for the block cb. -/
structure ButAt (cb : Nat) (w w' : World) : Prop where
  tape : w'.tape = w.tape
  os : w'.os = w.os
  output : w'.output = w.output
  size : w.heap.size ≤ w'.heap.size
  block : ∀ k, k < w.heap.size → k ≠ cb → w'.heap[k]? = w.heap[k]?
theorem ButAt.refl (cb : Nat) (w : World) : ButAt cb w w := ⟨rfl, rfl, rfl, Nat.le_refl _, fun _ _ _ => rfl⟩
theorem ButAt.trans {cb : Nat} {a b c : World} (h : ButAt cb a b) (k : ButAt cb b c) : ButAt cb a c :=
  ⟨k.tape.trans h.tape, k.os.trans h.os, k.output.trans h.output, Nat.le_trans h.size k.size, fun i hi hn => (k.block i (Nat.lt_of_lt_of_le hi h.size) hn).trans (h.block i hi hn)⟩
theorem ButAt.of {cb : Nat} {a b : World} (h : Below a.heap.size a b) : ButAt cb a b := ⟨h.tape, h.os, h.output, h.size, fun i hi _ => h.block i hi⟩
theorem ButAt.grown {cb : Nat} {a b : World} (h : a.grownBy b (some cb)) : ButAt cb a b := ⟨h.tape, h.os, h.output, h.size, fun i hi hn => h.block i hi (by simpa using hn)⟩
theorem ButAt.cell {cb : Nat} {w w' : World} (h : ButAt cb w w') {b : Nat} (hb : b < w.heap.size) (hn : b ≠ cb) (o : Nat) : w'.cell? ⟨b, o, none⟩ = w.cell? ⟨b, o, none⟩ := World.cell?_of_block (w := w) (h.block b hb hn)

/-- The last place before k at which the key is s. -/
def last (K : Nat → ByteArray) : Nat → List UInt8 → Option Nat
  | 0, _ => none
  | k + 1, s => if (K k).data.toList = s then some k else last K k s
theorem last_lt {K : Nat → ByteArray} {k : Nat} {s : List UInt8} {i : Nat} (h : last K k s = some i) : i < k := by
  induction k with
  | zero => simp [last] at h
  | succ k ih =>
    unfold last at h
    split at h
    · simp at h; omega
    · have := ih h; omega

/-- What the map holds, by key. -/
def Holds (D : DataW Value) (f : List UInt8 → Option Value) : Prop := ∀ s z, D.atKey (.string s) z = match f s with | some v => .held v | none => z

/-- Block b is a map of at most n entries that holds f. -/
def MapIs (w : World) (b n : Nat) (f : List UInt8 → Option Value) : Prop := ∃ D, w.ownsMap Yba.prog 9 RV b (Maps.size D) D ∧ Maps.size D ≤ n ∧ Holds D f

theorem map_start (w : World) : MapIs (w.alloc (.map #[] 0)) w.heap.size 0 (fun _ => none) :=
  ⟨.map [], own_tight (World.ownsMap_made w _ _ _), by simp [Maps.size], fun s z => by simp [DataW.atKey]⟩

theorem MapIs.of_block {w w' : World} {b n : Nat} {f : List UInt8 → Option Value} (h : MapIs w b n f) (hb : w'.heap[b]? = w.heap[b]?) : MapIs w' b n f := by
  obtain ⟨D, ⟨es, clock, h1, F, h2, h3⟩, hs, hh⟩ := h
  exact ⟨D, ⟨es, clock, hb.trans h1, F, h2, h3⟩, hs, hh⟩
theorem MapIs.lt {w : World} {b n : Nat} {f : List UInt8 → Option Value} (h : MapIs w b n f) : b < w.heap.size := by
  obtain ⟨D, h1, _⟩ := h
  exact h1.lt
theorem MapIs.alloc {w : World} {b n : Nat} {f : List UInt8 → Option Value} (h : MapIs w b n f) (o : Obj) : MapIs (w.alloc o) b n f := h.of_block (Below.heap_alloc _ _ _ h.lt)
theorem MapIs.drew {w : World} {b n : Nat} {f : List UInt8 → Option Value} (h : MapIs w b n f) : MapIs w.drew b n f := h

theorem map_put {w : World} {b n : Nat} {f : List UInt8 → Option Value} (h : MapIs w b n f) (hn : n < maxLen) (s : ByteArray) (hs : s.size ≤ maxLen) (v : Value) :
    ∃ w', (Instr.mapUpdate 25 (.map (some b)) (.string s) v).run Yba.prog w = .ok () w' ∧ MapIs w' b (n + 1) (fun x => if x = s.data.toList then some v else f x) ∧ w.grownBy w' (some b) := by
  obtain ⟨D, hown, hsz, hh⟩ := h
  obtain ⟨w', hrun, hown', hg⟩ := hown.update keyed9 Yba.underlying25 (Nat.lt_of_le_of_lt hsz hn) (WideMaps.keyOf_string_mk Yba.underlying9 hs) (d := .held v) (ps := []) rfl
  refine ⟨w', hrun, ⟨_, own_tight hown', ?_, fun x z => ?_⟩, hg⟩
  · have := hown'.size_le; omega
  · by_cases e : x = s.data.toList
    · subst e
      rw [atKey_put_same (k := .string s.data.toList) hown.isMap trivial]
      simp
    · rw [atKey_put_other (by simpa using e), hh]
      simp [e]

/-- Either the map holds f still, or the key s has been given one of the values that 'ok' allows. -/
def Z (b n : Nat) (f : List UInt8 → Option Value) (s : List UInt8) (ok : Value → Prop) (w : World) : Prop :=
  MapIs w b n f ∨ ∃ v, ok v ∧ MapIs w b (n + 1) (fun x => if x = s then some v else f x)

theorem Z.alloc {b n : Nat} {f : List UInt8 → Option Value} {s : List UInt8} {ok : Value → Prop} {w : World} (h : Z b n f s ok w) (o : Obj) : Z b n f s ok (w.alloc o) := by
  rcases h with h | ⟨v, hv, h⟩
  · exact .inl (h.alloc o)
  · exact .inr ⟨v, hv, h.alloc o⟩
theorem Z.drew {b n : Nat} {f : List UInt8 → Option Value} {s : List UInt8} {ok : Value → Prop} {w : World} (h : Z b n f s ok w) : Z b n f s ok w.drew := h

theorem z_put {b n : Nat} {f : List UInt8 → Option Value} {s : ByteArray} {ok : Value → Prop} {w : World} (h : Z b n f s.data.toList ok w) (hn : n + 1 < maxLen) (hs : s.size ≤ maxLen) (v : Value) :
    ∃ w', (Instr.mapUpdate 25 (.map (some b)) (.string s) v).run Yba.prog w = .ok () w' ∧ MapIs w' b (n + 1) (fun x => if x = s.data.toList then some v else f x) ∧ w.grownBy w' (some b) := by
  rcases h with h | ⟨v0, _, D, hown, hsz, hh⟩
  · exact map_put h (by omega) s hs v
  · have hhas : Maps.has D (.string s.data.toList) = true := has_true_of_atKey (y := .held v0) (fun z => by rw [hh]; simp)
    obtain ⟨w', hrun, hown', hg⟩ := hown.update keyed9 Yba.underlying25 (Nat.lt_of_le_of_lt hsz hn) (WideMaps.keyOf_string_mk Yba.underlying9 hs) (d := .held v) (ps := []) rfl
    refine ⟨w', hrun, ⟨_, own_tight hown', ?_, fun x z => ?_⟩, hg⟩
    · rw [size_put (hown.tidy keyed9), hhas]; exact hsz
    · by_cases e : x = s.data.toList
      · subst e
        rw [atKey_put_same (k := .string s.data.toList) hown.isMap trivial]
        simp
      · rw [atKey_put_other (by simpa using e), hh]
        simp [e]

/-- The store, as a function of the world and the value. -/
theorem z_store (b n : Nat) (f : List UInt8 → Option Value) (s : ByteArray) (ok : Value → Prop) (hn : n + 1 < maxLen) (hs : s.size ≤ maxLen) :
    ∃ U : World → Value → World, ∀ w v, Z b n f s.data.toList ok w → (Instr.mapUpdate 25 (.map (some b)) (.string s) v).run Yba.prog w = .ok () (U w v) ∧ MapIs (U w v) b (n + 1) (fun x => if x = s.data.toList then some v else f x) ∧ w.grownBy (U w v) (some b) := by
  have hex : ∀ (w : World) (v : Value), ∃ u, Z b n f s.data.toList ok w → (Instr.mapUpdate 25 (.map (some b)) (.string s) v).run Yba.prog w = .ok () u ∧ MapIs u b (n + 1) (fun x => if x = s.data.toList then some v else f x) ∧ w.grownBy u (some b) := by
    intro w v
    by_cases hz : Z b n f s.data.toList ok w
    · obtain ⟨u, h⟩ := z_put hz hn hs v
      exact ⟨u, fun _ => h⟩
    · exact ⟨w, fun h => absurd h hz⟩
  exact ⟨fun w v => Classical.choose (hex w v), fun w v => Classical.choose_spec (hex w v)⟩

end Go.Proofs.Ybulkdvie
