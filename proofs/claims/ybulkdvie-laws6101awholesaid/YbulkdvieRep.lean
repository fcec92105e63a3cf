import Derived.Test.YbulkdvieRows
import Derived.WalkKit
import Derived.WalkSpells
import Derived.WalkLawsBesides
import Derived.Deep.Light
import Derived.BigQuiet
import Derived.Maps.OwnSet
import Derived.StringKeys
import Derived.Lib.SmallJoins
namespace Go.Proofs.Ybulkdvie
open Go.RowKit Go.Maps

/-! ### The plain law: the first name that occurred before -/
def dup (N : Nat → ByteArray) (j : Nat) : Bool := (List.range j).any fun i => (N i).toList == (N j).toList
theorem dup_iff (N : Nat → ByteArray) (j : Nat) : dup N j = true ↔ ∃ i, i < j ∧ (N i).toList = (N j).toList := by simp [dup]
theorem dup_not (N : Nat → ByteArray) (j : Nat) (h : ∀ i, i < j → (N i).toList ≠ (N j).toList) : dup N j = false := by
  rw [Bool.eq_false_iff]
  intro hd
  obtain ⟨i, hi, e⟩ := (dup_iff N j).1 hd
  exact h i hi e
/-- What 'repeated' answers. -/
def Rep (N : Nat → ByteArray) (len : Nat) (s : ByteArray) (ok : Bool) : Prop :=
  (ok = true ∧ ∃ j, j < len ∧ dup N j = true ∧ (∀ i, i < j → dup N i = false) ∧ s = N j) ∨ (ok = false ∧ s = ⟨#[]⟩ ∧ ∀ i, i < len → dup N i = false)
theorem Rep.unique {N : Nat → ByteArray} {len : Nat} {s s' : ByteArray} {ok ok' : Bool} (h : Rep N len s ok) (h' : Rep N len s' ok') : s = s' ∧ ok = ok' := by
  rcases h with ⟨rfl, j, hj, hd, hm, rfl⟩ | ⟨rfl, rfl, hn⟩ <;> rcases h' with ⟨rfl, j', hj', hd', hm', rfl⟩ | ⟨rfl, rfl, hn'⟩
  · have : j = j' := by
      rcases Nat.lt_trichotomy j j' with h | h | h
      · rw [hm' j h] at hd; cases hd
      · exact h
      · rw [hm j' h] at hd'; cases hd'
    subst this
    exact ⟨rfl, rfl⟩
  · rw [hn' j hj] at hd; cases hd
  · rw [hn j' hj'] at hd'; cases hd'
  · exact ⟨rfl, rfl⟩

/-! ### The map of the names that were met -/
theorem keyed9 : Keyed Yba.prog 9 := string_keyed Yba.underlying9
theorem zero4 (w : World) : (zeroValue 4).run Yba.prog w = .ok (.bool false) w := by kernel_rfl

theorem plainElem_bool_inv {H : Type} {P : Program} {e : TypeId} (he : P.underlying e = some .bool) {v : Value} {z : DataW H × List MemPlace} (h : plainElem P e v = some z) : ∃ a, v = .bool a ∧ z = (.lit (.bool a), []) := by
  unfold plainElem at h
  rw [he] at h
  cases v <;> simp at h
  rename_i x
  exact ⟨x, rfl, h.symm⟩

/-- Block b is a map of at most n entries whose keys, all true, are just those of L. -/
def SetIs (w : World) (b n : Nat) (L : List (List UInt8)) : Prop :=
  ∃ D : DataW Unit, w.ownsMap Yba.prog 9 (plainElem Yba.prog 4) b n D ∧ ∀ s, D.atKey (.string s) (.lit (.bool false)) = .lit (.bool (decide (s ∈ L)))

theorem set_start (w : World) : SetIs (w.alloc (.map #[] 0)) w.heap.size 0 [] :=
  ⟨.map [], World.ownsMap_made w _ _ _, fun s => by simp [DataW.atKey]⟩

theorem set_look {w : World} {b n : Nat} {L : List (List UInt8)} (h : SetIs w b n L) (s : ByteArray) (hs : s.size ≤ maxLen) :
    (Instr.lookup 54 (.map (some b)) (.string s) false).run Yba.prog w = .ok (.bool (decide (s.data.toList ∈ L))) w := by
  obtain ⟨D, hown, hat⟩ := h
  obtain ⟨v, ps, hrun, hv⟩ := hown.lookup keyed9 Yba.underlying54 (zero4 w) (plainElem_bool Yba.underlying4 false) (WideMaps.keyOf_string_mk Yba.underlying9 hs)
  obtain ⟨a, rfl, e⟩ := plainElem_bool_inv Yba.underlying4 hv
  rw [hat] at e
  simp at e
  rw [hrun, ← e.1]

theorem set_put {w : World} {b n : Nat} {L : List (List UInt8)} (h : SetIs w b n L) (hn : n < maxLen) (s : ByteArray) (hs : s.size ≤ maxLen) :
    ∃ w', (Instr.mapUpdate 54 (.map (some b)) (.string s) (.bool true)).run Yba.prog w = .ok () w' ∧ SetIs w' b (n + 1) (s.data.toList :: L) ∧ w.grownBy w' (some b) := by
  obtain ⟨D, hown, hat⟩ := h
  obtain ⟨w', hrun, hown', hg⟩ := hown.update keyed9 Yba.underlying54 hn (WideMaps.keyOf_string_mk Yba.underlying9 hs) (plainElem_bool Yba.underlying4 true)
  refine ⟨w', hrun, ⟨_, hown', fun x => ?_⟩, hg⟩
  by_cases e : x = s.data.toList
  · subst e
    rw [atKey_put_same (k := .string s.data.toList) hown.isMap trivial]
    simp
  · rw [atKey_put_other (by simpa using e), hat]
    simp [e]

theorem SetIs.alloc {w : World} {b n : Nat} {L : List (List UInt8)} (h : SetIs w b n L) (o : Obj) : SetIs (w.alloc o) b n L := by
  obtain ⟨D, hown, hat⟩ := h
  exact ⟨D, hown.alloc o, hat⟩

/-- The keys that were met behind k rounds. -/
def met (N : Nat → ByteArray) : Nat → List (List UInt8)
  | 0 => []
  | k + 1 => (N k).data.toList :: met N k
theorem mem_met (N : Nat → ByteArray) (k : Nat) (x : List UInt8) : x ∈ met N k ↔ ∃ i, i < k ∧ (N i).data.toList = x := by
  induction k with
  | zero => simp [met]
  | succ k ih =>
    simp only [met, List.mem_cons, ih]
    constructor
    · rintro (rfl | ⟨i, hi, e⟩)
      · exact ⟨k, by omega, rfl⟩
      · exact ⟨i, by omega, e⟩
    · rintro ⟨i, hi, e⟩
      by_cases h : i = k
      · subst h; exact .inl e.symm
      · exact .inr ⟨i, by omega, e⟩
theorem met_dup (N : Nat → ByteArray) (k : Nat) : decide ((N k).data.toList ∈ met N k) = dup N k := by
  rw [Bool.eq_iff_iff, dup_iff]
  simp [mem_met, ByteArray.toList_eq]

set_option maxHeartbeats 400000 in
theorem repeated_any (ob len : Nat) (N : Nat → ByteArray) (w : World) (hlen : len ≤ 4096) (hob : ob < w.heap.size) (hsz : ∀ i, i < len → (N i).size ≤ maxLen)
    (hk : ∀ i, i < len → w.cell? ⟨ob, i * 2, none⟩ = some (.string (N i)) ∧ w.cell? ⟨ob, i * 2 + 1, none⟩ = some .nilIface) :
    Calls Yba.prog 8 #[.slice (some ⟨ob, 0, none⟩) len len] w fun e w' => ∃ s ok, e = .returned (.tuple #[.string s, .bool ok]) ∧ Rep N len s ok ∧ Below w.heap.size w w' := by
  have hmm := @run_makeMap Yba.prog
  go_enter Yba.func8, Yba.ntmps8
  go_wp2
  go_loopw [10] (fun i wr => ∃ k : Nat, k ≤ len ∧ i = .int .i64 k ∧ (∀ j, j < k → dup N j = false) ∧ SetIs wr w.heap.size k (met N k) ∧ Below w.heap.size w wr ∧ w.heap.size < wr.heap.size) (fun i _ => len - (intOf i).toNat)
  case atStart => exact ⟨0, Nat.zero_le _, rfl, fun j hj => absurd hj (Nat.not_lt_zero _), set_start w, Joins.below_alloc1 _ _, by simp⟩
  case round =>
    obtain ⟨k, hk1, rfl, HD, HS, HB, hsz1⟩ := hrel
    by_cases hlt : k < len
    · have c0 : wr.cell? ⟨ob, k * 2, none⟩ = some (.string (N k)) := (HB.cell (p := ⟨ob, k * 2, none⟩) hob).trans (hk k hlt).1
      have c1 : wr.cell? ⟨ob, k * 2 + 1, none⟩ = some .nilIface := (HB.cell (p := ⟨ob, k * 2 + 1, none⟩) hob).trans (hk k hlt).2
      have hs := hsz k hlt
      have hmd := met_dup N k
      generalize hN : N k = nk at c0 hs
      have hS2 := HS.alloc (.cells #[.string nk, .nilIface] 48)
      have hl := set_look hS2 nk hs
      rw [← hN, hmd, hN] at hl
      have HN : Hid (N k = nk) := hN
      have hli : (k : Int) < (len : Int) := by omega
      clear hN hmd
      cases hd : dup N k
      · rw [hd] at hl
        obtain ⟨w1, hrun, hS3, hg⟩ := set_put hS2 (by unfold maxLen; omega) nk hs
        clear hS2
        go_wp2
        go_light
        have hg' : Below w.heap.size w w1 := (HB.alloc (by omega) _).grown hg (by simp; omega) (by intro q hq; simp at hq; omega)
        refine ⟨⟨k + 1, by omega, by go_num, ?_, ?_, hg', ?_⟩, by simp [intOf]; omega⟩
        · intro j hj
          by_cases e : j = k
          · subst e; exact hd
          · exact HD j (by omega)
        · rw [show met N (k + 1) = nk.data.toList :: met N k by rw [met, HN.out]]
          exact hS3
        · have := hg.size; simp at this; omega
      · rw [hd] at hl
        go_wp2
        go_ret2
        go_light
        exact ⟨_, _, rfl, .inl ⟨rfl, k, hlt, hd, HD, HN.out.symm⟩, HB.alloc (by omega) _⟩
    · have hkl : k = len := by omega
      subst hkl
      go_wp2
      go_ret2
      go_light
      exact ⟨_, _, rfl, .inr ⟨rfl, rfl, HD⟩, HB⟩

end Go.Proofs.Ybulkdvie
