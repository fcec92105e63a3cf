import Derived.Test.YbulkdvjuRun
namespace Go.Proofs.Ybulkdvju
open Go.RowKit
attribute [local go_sem] run_store_float

/-- What the law's input says of its hosts, and where their reports lie. -/
structure HostsAt (bb len : Nat) (TF : Nat → Nat) (AG : Nat → ByteArray) (HR : Nat → Bool) (RB JB JL : Nat → Nat) (NM : Nat → Nat → ByteArray) (ST : Nat → Nat) (w : World) : Prop where
  h0 : ∀ i, i < len → w.cell? ⟨bb, i * 4, none⟩ = some (.float .f64 (TF i))
  h1 : ∀ i, i < len → w.cell? ⟨bb, i * 4 + 1, none⟩ = some (.int .i64 ((i : Int) + 1))
  h2 : ∀ i, i < len → w.cell? ⟨bb, i * 4 + 2, none⟩ = some (.string (AG i))
  h3 : ∀ i, i < len → w.cell? ⟨bb, i * 4 + 3, none⟩ = some (.pointer (if HR i = true then some ⟨RB i, 0, none⟩ else none))
  r0 : ∀ i, i < len → HR i = true → w.cell? ⟨RB i, 0, none⟩ = some (.string ⟨#[]⟩)
  r1 : ∀ i, i < len → HR i = true → w.cell? ⟨RB i, 1, none⟩ = some (.float .f64 0)
  r2 : ∀ i, i < len → HR i = true → w.cell? ⟨RB i, 2, none⟩ = some (.float .f64 0)
  r3 : ∀ i, i < len → HR i = true → w.cell? ⟨RB i, 3, none⟩ = some (.slice (some ⟨JB i, 0, none⟩) (JL i) (JL i))
  r4 : ∀ i, i < len → HR i = true → w.cell? ⟨RB i, 4, none⟩ = some (.slice none 0 0)
  r5 : ∀ i, i < len → HR i = true → w.cell? ⟨RB i, 5, none⟩ = some (.slice none 0 0)
  jobs : ∀ i, i < len → HR i = true → JobsAt (JB i) (JL i) (NM i) ST ((i : Int) + 1) w
  lt : ∀ i, i < len → HR i = true → RB i < w.heap.size ∧ JB i < w.heap.size
  bblt : bb < w.heap.size

theorem HostsAt.keep {bb len : Nat} {TF : Nat → Nat} {AG : Nat → ByteArray} {HR : Nat → Bool} {RB JB JL : Nat → Nat} {NM : Nat → Nat → ByteArray} {ST : Nat → Nat} {w w' : World}
    (h : HostsAt bb len TF AG HR RB JB JL NM ST w) (hb : Below w.heap.size w w') : HostsAt bb len TF AG HR RB JB JL NM ST w' := by
  obtain ⟨h0, h1, h2, h3, r0, r1, r2, r3, r4, r5, hj, hl, hbb⟩ := h
  have e : ∀ o, w'.cell? ⟨bb, o, none⟩ = w.cell? ⟨bb, o, none⟩ := fun o => hb.cell (p := ⟨bb, o, none⟩) hbb
  have er : ∀ i, i < len → HR i = true → ∀ o, w'.cell? ⟨RB i, o, none⟩ = w.cell? ⟨RB i, o, none⟩ := fun i hi hr o => hb.cell (p := ⟨RB i, o, none⟩) (hl i hi hr).1
  exact ⟨fun i hi => (e _).trans (h0 i hi), fun i hi => (e _).trans (h1 i hi), fun i hi => (e _).trans (h2 i hi), fun i hi => (e _).trans (h3 i hi),
    fun i hi hr => (er i hi hr _).trans (r0 i hi hr), fun i hi hr => (er i hi hr _).trans (r1 i hi hr), fun i hi hr => (er i hi hr _).trans (r2 i hi hr), fun i hi hr => (er i hi hr _).trans (r3 i hi hr), fun i hi hr => (er i hi hr _).trans (r4 i hi hr), fun i hi hr => (er i hi hr _).trans (r5 i hi hr),
    fun i hi hr => (hj i hi hr).keep (hb.block _ (hl i hi hr).2), fun i hi hr => ⟨Nat.lt_of_lt_of_le (hl i hi hr).1 hb.size, Nat.lt_of_lt_of_le (hl i hi hr).2 hb.size⟩, Nat.lt_of_lt_of_le hbb hb.size⟩

/-- Job k of host i bears the name that is asked for. -/
def Hit (HR : Nat → Bool) (JL : Nat → Nat) (NM : Nat → Nat → ByteArray) (name : ByteArray) (i k : Nat) : Prop := HR i = true ∧ k < JL i ∧ (NM i k).toList = name.toList

/-- What runningJob answers. -/
def JobTo (len : Nat) (TF : Nat → Nat) (AG : Nat → ByteArray) (HR : Nat → Bool) (RB JL : Nat → Nat) (NM : Nat → Nat → ByteArray) (ST : Nat → Nat) (name : ByteArray) (vh vj : Value) (ok : Bool) : Prop :=
  (ok = true ∧ ∃ i k, i < len ∧ Hit HR JL NM name i k ∧ (∀ k', k' < k → ¬ Hit HR JL NM name i k') ∧ (∀ i', i' < i → ∀ k', ¬ Hit HR JL NM name i' k') ∧
    vh = .agg #[.float .f64 (TF i), .int .i64 ((i : Int) + 1), .string (AG i), .pointer (some ⟨RB i, 0, none⟩)] ∧ vj = rjV (NM i k) (ST k) ((i : Int) + 1)) ∨
  (ok = false ∧ vh = .agg #[.float .f64 0, .int .i64 0, .string ⟨#[]⟩, .pointer none] ∧ vj = zeroJ ∧ ∀ i', i' < len → ∀ k', ¬ Hit HR JL NM name i' k')

set_option maxHeartbeats 1000000 in
theorem job_any (bb len cap : Nat) (TF : Nat → Nat) (AG : Nat → ByteArray) (HR : Nat → Bool) (RB JB JL : Nat → Nat) (NM : Nat → Nat → ByteArray) (ST : Nat → Nat) (name : ByteArray) (w : World)
    (hlen : len ≤ 65536) (hjl : ∀ i, i < len → HR i = true → JL i ≤ 1048576) (HH : HostsAt bb len TF AG HR RB JB JL NM ST w) :
    Calls Yba.prog 12 #[.slice (some ⟨bb, 0, none⟩) len cap, .string name] w fun e w' => ∃ vh vj ok, e = .returned (.tuple #[vh, vj, .bool ok]) ∧ JobTo len TF AG HR RB JL NM ST name vh vj ok ∧ Below w.heap.size w w' := by
  go_enter Yba.func12, Yba.ntmps12
  go_wp2
  go_loopw [13] (fun i wr => ∃ k : Nat, k ≤ len ∧ i = .int .i64 k ∧ (∀ i', i' < k → ∀ k', ¬ Hit HR JL NM name i' k') ∧ Below w.heap.size w wr ∧ w.heap.size + 1 < wr.heap.size ∧
      wr.heap[w.heap.size]? = some (.cells #[.float .f64 0, .int .i64 0, .string ⟨#[]⟩, .pointer none] 72 (0, 0)) ∧ wr.heap[w.heap.size + 1]? = some (.cells #[.string ⟨#[]⟩, .float .f64 0, .string ⟨#[]⟩, .float .f64 0, .float .f64 0, .float .f64 0, .float .f64 0, .float .f64 0, .int .i64 0, .float .f64 0, .int .i64 0, .pointer none] 81 (0, 0))) (fun i _ => len - (intOf i).toNat)
  case atStart => exact ⟨0, Nat.zero_le _, rfl, fun j hj => absurd hj (Nat.not_lt_zero _), Joins.below_alloc2 _ _ _, by simp, by rw [Below.heap_alloc _ _ _ (by simp)]; exact (MapKept.heap_alloc w _).1, heap_alloc_two w _ _⟩
  case round =>
    obtain ⟨k, hk1, rfl, HN, HB, hsz, hresh, hresj⟩ := hrel
    have HH2 := HH.keep HB
    by_cases hlt : k < len
    · have c0 := HH2.h0 k hlt
      have c1 := HH2.h1 k hlt
      have c2 := HH2.h2 k hlt
      have c3 := HH2.h3 k hlt
      have hli : (k : Int) < (len : Int) := by omega
      cases hr : HR k
      · rw [hr] at c3
        simp only [Bool.false_eq_true, if_false] at c3
        clear HH2
        go_wp2
        go_light
        refine ⟨⟨k + 1, by omega, by go_num, ?_, HB.alloc (by omega) _, by simp; omega, ?_, ?_⟩, by simp [intOf]; omega⟩
        · intro i' hi' k' hh
          by_cases e : i' = k
          · subst e; exact absurd hh.1 (by rw [hr]; simp)
          · exact HN i' (by omega) k' hh
        · rw [Below.heap_alloc _ _ _ (by omega)]; exact hresh
        · rw [Below.heap_alloc _ _ _ hsz]; exact hresj
      · rw [hr] at c3
        simp only [if_true] at c3
        have q0 := HH2.r0 k hlt hr
        have q1 := HH2.r1 k hlt hr
        have q2 := HH2.r2 k hlt hr
        have q3 := HH2.r3 k hlt hr
        have q4 := HH2.r4 k hlt hr
        have q5 := HH2.r5 k hlt hr
        have hjobs := HH2.jobs k hlt hr
        have hlt2 := HH2.lt k hlt hr
        have hrb1 : RB k < wr.heap.size := hlt2.1
        have hrb2 : RB k ≠ wr.heap.size := by omega
        clear HH2
        go_wp2_with fail
        refine (running_any (JB k) (JL k) (JL k) (NM k) ST ((k : Int) + 1) name _ (hjl k hlt hr) ?_ ?_).mono ?_
        · simp; omega
        · exact hjobs.keep (Below.heap_alloc _ _ _ hlt2.2)
        rintro e w2 ⟨v, ok, rfl, HR2, hb2⟩
        have hrh : w2.heap[w.heap.size]? = some (.cells #[.float .f64 0, .int .i64 0, .string ⟨#[]⟩, .pointer none] 72 (0, 0)) := by rw [hb2.block _ (by simp; omega), Below.heap_alloc _ _ _ (by omega)]; exact hresh
        have hrj : w2.heap[w.heap.size + 1]? = some (.cells #[.string ⟨#[]⟩, .float .f64 0, .string ⟨#[]⟩, .float .f64 0, .float .f64 0, .float .f64 0, .float .f64 0, .float .f64 0, .int .i64 0, .float .f64 0, .int .i64 0, .pointer none] 81 (0, 0)) := by rw [hb2.block _ (by simp; omega), Below.heap_alloc _ _ _ hsz]; exact hresj
        have hhb : w2.heap[wr.heap.size]? = some (.cells #[.float .f64 (TF k), .int .i64 ((k : Int) + 1), .string (AG k), .pointer (some ⟨RB k, 0, none⟩)] 72 (0, 0)) := by rw [hb2.block _ (by simp)]; exact (MapKept.heap_alloc wr _).1
        have hB2 : Below w.heap.size w w2 := (HB.alloc (by omega) _).trans (hb2.mono (by simp; omega))
        have hs2 : wr.heap.size + 1 ≤ w2.heap.size := by have := hb2.size; simpa using this
        have hzh : ∀ o, w2.cell? ⟨w.heap.size, o, none⟩ = (#[.float .f64 0, .int .i64 0, .string ⟨#[]⟩, .pointer none] : Array Value)[o]? := fun o => Joins.cell_of_block hrh o
        have hzf : ∀ o, w2.frozen? ⟨w.heap.size, o, none⟩ = false := fun o => Joins.unfrozen_of_block hrh o
        have hzj : ∀ o, w2.cell? ⟨w.heap.size + 1, o, none⟩ = (#[.string ⟨#[]⟩, .float .f64 0, .string ⟨#[]⟩, .float .f64 0, .float .f64 0, .float .f64 0, .float .f64 0, .float .f64 0, .int .i64 0, .float .f64 0, .int .i64 0, .pointer none] : Array Value)[o]? := fun o => Joins.cell_of_block hrj o
        have hzg : ∀ o, w2.frozen? ⟨w.heap.size + 1, o, none⟩ = false := fun o => Joins.unfrozen_of_block hrj o
        have hhc : ∀ o, w2.cell? ⟨wr.heap.size, o, none⟩ = (#[.float .f64 (TF k), .int .i64 ((k : Int) + 1), .string (AG k), .pointer (some ⟨RB k, 0, none⟩)] : Array Value)[o]? := fun o => Joins.cell_of_block hhb o
        have hd1 : w.heap.size < w2.heap.size := by omega
        have hd2 : w.heap.size + 1 < w2.heap.size := by omega
        have hd3 : wr.heap.size < w2.heap.size := by omega
        have hd4 : w.heap.size ≠ w2.heap.size := by omega
        have hd5 : w.heap.size + 1 ≠ w2.heap.size := by omega
        have hd6 : wr.heap.size ≠ w2.heap.size := by omega
        clear hb2 hjobs
        rcases HR2 with ⟨rfl, q, hq, hqn, hqm, rfl⟩ | ⟨rfl, rfl, hno⟩
        · have hfin : JobTo len TF AG HR RB JL NM ST name (.agg #[.float .f64 (TF k), .int .i64 ((k : Int) + 1), .string (AG k), .pointer (some ⟨RB k, 0, none⟩)]) (rjV (NM k q) (ST q) ((k : Int) + 1)) true :=
            .inl ⟨rfl, k, q, hlt, ⟨hr, hq, hqn⟩, fun k' hk' hh => hqm k' hk' hh.2.2, HN, rfl, rfl⟩
          clear hqn hqm
          unfold rjV
          go_wp2
          go_region
          go_wp2
          refine bodyPost_ret (v := .tuple #[.agg #[.float .f64 (TF k), .int .i64 ((k : Int) + 1), .string (AG k), .pointer (some ⟨RB k, 0, none⟩)], .agg #[.string (NM k q), .float .f64 (ST q), .string ⟨#[]⟩, .float .f64 0, .float .f64 0, .float .f64 0, .float .f64 0, .float .f64 0, .int .i64 0, .float .f64 0, .int .i64 ((k : Int) + 1), .pointer none], .bool true]) ?_ rfl ⟨_, _, _, rfl, hfin, ?_⟩
          · simp [results, Yba.results12, go_sem, hzh, hzj, hd1, hd2]
          · go_light
            refine Below.drew ?_
            refine Below.alloc ?_ (by simp [World.setCell]; omega) _
            iterate 16 (refine Below.setCell ?_ (by simp) _)
            exact hB2
        · unfold zeroJ
          go_wp2
          go_light
          refine ⟨⟨k + 1, by omega, by go_num, ?_, hB2.alloc (by omega) _, by simp; omega, ?_, ?_⟩, by simp [intOf]; omega⟩
          · intro i' hi' k' hh
            by_cases e : i' = k
            · subst e; exact hno k' hh.2.1 hh.2.2
            · exact HN i' (by omega) k' hh
          · rw [Below.heap_alloc _ _ _ hd1]; exact hrh
          · rw [Below.heap_alloc _ _ _ hd2]; exact hrj
    · have hkl : k = len := by omega
      subst hkl
      clear HH2
      have hzh : ∀ o, wr.cell? ⟨w.heap.size, o, none⟩ = (#[.float .f64 0, .int .i64 0, .string ⟨#[]⟩, .pointer none] : Array Value)[o]? := fun o => Joins.cell_of_block hresh o
      have hzf : ∀ o, wr.frozen? ⟨w.heap.size, o, none⟩ = false := fun o => Joins.unfrozen_of_block hresh o
      have hzj : ∀ o, wr.cell? ⟨w.heap.size + 1, o, none⟩ = (#[.string ⟨#[]⟩, .float .f64 0, .string ⟨#[]⟩, .float .f64 0, .float .f64 0, .float .f64 0, .float .f64 0, .float .f64 0, .int .i64 0, .float .f64 0, .int .i64 0, .pointer none] : Array Value)[o]? := fun o => Joins.cell_of_block hresj o
      have hzg : ∀ o, wr.frozen? ⟨w.heap.size + 1, o, none⟩ = false := fun o => Joins.unfrozen_of_block hresj o
      have hfin : JobTo k TF AG HR RB JL NM ST name (.agg #[.float .f64 0, .int .i64 0, .string ⟨#[]⟩, .pointer none]) zeroJ false := .inr ⟨rfl, rfl, rfl, HN⟩
      go_wp2
      refine bodyPost_ret (v := .tuple #[.agg #[.float .f64 0, .int .i64 0, .string ⟨#[]⟩, .pointer none], .agg #[.string ⟨#[]⟩, .float .f64 0, .string ⟨#[]⟩, .float .f64 0, .float .f64 0, .float .f64 0, .float .f64 0, .float .f64 0, .int .i64 0, .float .f64 0, .int .i64 0, .pointer none], .bool false]) ?_ rfl ⟨_, _, _, rfl, hfin, ?_⟩
      · simp [results, Yba.results12, go_sem, hzh, hzj]
      · go_light
        iterate 16 (refine Below.setCell ?_ (by simp) _)
        exact HB

end Go.Proofs.Ybulkdvju
